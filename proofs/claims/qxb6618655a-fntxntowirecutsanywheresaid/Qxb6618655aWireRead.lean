/-
  leeway, the wire: zzReadOK (23), zzSameRead (24).
-/
import Derived.Test.Qxb6618655aWireEq
namespace Go.Proofs.Qxb6618655a
open Go.RowKit Go.Lib
set_option linter.unusedVariables false

set_option maxRecDepth 100000 in
set_option maxHeartbeats 2000000 in
theorem read_ok (d : RD) (m : Option Nat) (w : World) (hI : d.In w) (hF : d.Fit) (hm : DepOK w (.map m) d) :
    Calls Try.prog 23 #[.agg #[.string d.key, .map m, .string (hexS d.dig)], .agg #[.string d.key, .slice d.ida d.idl d.idc, .slice d.ta d.tl d.tc, .string d.dig]] w (TrueN w) := by
  go_enter Try.func23, Try.ntmps23
  go_wp2_with fail
  have HA : ∃ A n0 n1, A = (w.alloc (.cells #[.string d.key, .map m, .string (hexS d.dig)] 54)).alloc (.cells #[.string d.key, .slice d.ida d.idl d.idc, .slice d.ta d.tl d.tc, .string d.dig] 56) ∧ n0 = w.heap.size ∧ n1 = w.heap.size + 1 := ⟨_, _, _, rfl, rfl, rfl⟩
  obtain ⟨A, n0, n1, EA, E0, E1⟩ := HA
  rw [← EA, ← E1, ← E0]
  have hsA : w.Since w.heap.size A := by rw [EA]; exact alloc2 _ _ _
  have ha0 : A.heap[n0]? = some (.cells #[.string d.key, .map m, .string (hexS d.dig)] 54) := by rw [EA, E0]; exact (alloc_lt _ _ (by simp)).trans (alloc_at _ _)
  have ha1 : A.heap[n1]? = some (.cells #[.string d.key, .slice d.ida d.idl d.idc, .slice d.ta d.tl d.tc, .string d.dig] 56) := by rw [EA, E1, ← size_alloc w (.cells #[.string d.key, .map m, .string (hexS d.dig)] 54)]; exact alloc_at _ _
  have g0 : A.drew.cell? ⟨n0, 0, none⟩ = some (.string d.key) := (cell_of_row _ _ 0 _ _ _ ha0).trans rfl
  have g1 : A.drew.cell? ⟨n0, 1, none⟩ = some (.map m) := (cell_of_row _ _ 1 _ _ _ ha0).trans rfl
  have g2 : A.drew.cell? ⟨n0, 2, none⟩ = some (.string (hexS d.dig)) := (cell_of_row _ _ 2 _ _ _ ha0).trans rfl
  have k0 : A.drew.cell? ⟨n1, 0, none⟩ = some (.string d.key) := (cell_of_row _ _ 0 _ _ _ ha1).trans rfl
  have k1 : A.drew.cell? ⟨n1, 1, none⟩ = some (.slice d.ida d.idl d.idc) := (cell_of_row _ _ 1 _ _ _ ha1).trans rfl
  have k2 : A.drew.cell? ⟨n1, 2, none⟩ = some (.slice d.ta d.tl d.tc) := (cell_of_row _ _ 2 _ _ _ ha1).trans rfl
  have k3 : A.drew.cell? ⟨n1, 3, none⟩ = some (.string d.dig) := (cell_of_row _ _ 3 _ _ _ ha1).trans rfl
  have HI : Hid (d.In w ∧ d.Fit ∧ DepOK w (.map m) d) := ⟨hI, hF, hm⟩
  have hbig := hF.dig
  have HS : Hid (∀ w5, A.drew.Since A.drew.heap.size w5 → w.Since w.heap.size w5) := fun w5 h5 => hsA.trans (since_mono (⟨h5.os, h5.tape, h5.output, h5.size, h5.block⟩ : A.Since A.heap.size w5) hsA.size)
  clear EA E0 E1 hsA ha0 ha1 hI hF hm
  go_region_held3 (fun w' => w'.cell? ⟨n0, 0, none⟩ = some (.string d.key) ∧ w'.cell? ⟨n0, 1, none⟩ = some (.map m) ∧ w'.cell? ⟨n0, 2, none⟩ = some (.string (hexS d.dig)) ∧ w'.cell? ⟨n1, 0, none⟩ = some (.string d.key) ∧ w'.cell? ⟨n1, 1, none⟩ = some (.slice d.ida d.idl d.idc) ∧ w'.cell? ⟨n1, 2, none⟩ = some (.slice d.ta d.tl d.tc) ∧ w'.cell? ⟨n1, 3, none⟩ = some (.string d.dig))
    (first
      | exact ⟨cell_keep hs6 (cell_keep hs5 g0), cell_keep hs6 (cell_keep hs5 g1), cell_keep hs6 (cell_keep hs5 g2), cell_keep hs6 (cell_keep hs5 k0), cell_keep hs6 (cell_keep hs5 k1), cell_keep hs6 (cell_keep hs5 k2), cell_keep hs6 (cell_keep hs5 k3)⟩
      | exact ⟨cell_keep hs5 g0, cell_keep hs5 g1, cell_keep hs5 g2, cell_keep hs5 k0, cell_keep hs5 k1, cell_keep hs5 k2, cell_keep hs5 k3⟩
      | exact ⟨g0, g1, g2, k0, k1, k2, k3⟩)
    (first
      | (go_at_call 32; refine (zz_hex d.dig _ hbig).mono ?_; rintro e w5 ⟨rfl, hs5⟩)
      | (go_at_call 33; refine (deps_match d (.map m) _ (HI.out.1.since (HS.out w5 hs5)) HI.out.2.1 (HI.out.2.2.since (HS.out w5 hs5))).mono ?_; rintro e w6 ⟨rfl, hs6⟩))
  have hs7 : w.Since w.heap.size w6 := (HS.out w5 hs5).trans (since_mono hs6 (HS.out w5 hs5).size)
  go_wp2_with fail
  go_ret
  exact ⟨rfl, hs7⟩

set_option maxRecDepth 100000 in
set_option maxHeartbeats 2000000 in
theorem same_read (d : RD) (m m' : Option Nat) (w : World) (hI : d.In w) (hF : d.Fit) (hm : DepOK w (.map m) d) (hm' : DepOK w (.map m') d) :
    Calls Try.prog 24 #[.agg #[.string d.key, .map m, .string (hexS d.dig)], .agg #[.string d.key, .map m', .string (hexS d.dig)], .agg #[.string d.key, .slice d.ida d.idl d.idc, .slice d.ta d.tl d.tc, .string d.dig]] w (TrueN w) := by
  go_enter Try.func24, Try.ntmps24
  go_wp2_with fail
  have hsA : w.Since w.heap.size (((w.alloc (.cells #[.string d.key, .map m, .string (hexS d.dig)] 54)).alloc (.cells #[.string d.key, .map m', .string (hexS d.dig)] 54)).alloc (.cells #[.string d.key, .slice d.ida d.idl d.idc, .slice d.ta d.tl d.tc, .string d.dig] 56)) := (alloc2 w _ _).alloc (by simp; omega) _
  refine (deps_match d (.map m) _ (hI.since hsA) hF (hm.since hsA)).mono ?_
  rintro e w5 ⟨rfl, hs5⟩
  obtain ⟨b0, b1, b2, hB, hsz⟩ := after3 hs5
  have k0 : w5.cell? ⟨w.heap.size + 1, 1, none⟩ = some (.map m') := (cell_of_row _ _ 1 _ _ _ b1).trans rfl
  have r0 : w5.cell? ⟨w.heap.size + 1 + 1, 0, none⟩ = some (.string d.key) := (cell_of_row _ _ 0 _ _ _ b2).trans rfl
  have r1 : w5.cell? ⟨w.heap.size + 1 + 1, 1, none⟩ = some (.slice d.ida d.idl d.idc) := (cell_of_row _ _ 1 _ _ _ b2).trans rfl
  have r2 : w5.cell? ⟨w.heap.size + 1 + 1, 2, none⟩ = some (.slice d.ta d.tl d.tc) := (cell_of_row _ _ 2 _ _ _ b2).trans rfl
  have r3 : w5.cell? ⟨w.heap.size + 1 + 1, 3, none⟩ = some (.string d.dig) := (cell_of_row _ _ 3 _ _ _ b2).trans rfl
  clear b0 b1 b2 hs5 hsA hsz
  go_wp2_with fail
  refine (deps_match d (.map m') _ (hI.since hB) hF (hm'.since hB)).mono ?_
  rintro e w6 ⟨rfl, hs6⟩
  have hs7 : w.Since w.heap.size w6 := hB.trans (since_mono hs6 hB.size)
  clear hs6 hB k0 r0 r1 r2 r3
  go_wp2_with fail
  go_ret
  exact ⟨rfl, hs7⟩
end Go.Proofs.Qxb6618655a
