/-
  precedent: THE LAW's WALK (7).
-/
import Derived.Test.Qxb6618715aSame
namespace Go.Proofs.Qxb6618715a
open Go.RowKit
set_option linter.unusedVariables false

theorem keepb {w w' : World} (hs : w.Since w.heap.size w') {b : Nat} {o : Obj} (h : w.heap[b]? = some o) : w'.heap[b]? = some o := by
  rw [hs.block b (Array.getElem?_eq_some_iff.1 h).1]; exact h

theorem map_isNil (m : Option Nat) (w : World) : (binOp BinOp.eql 31 (.map m) (.map none)).run Try.prog w = .ok (.bool m.isNone) w := by
  cases m <;> kernel_rfl
theorem slice_isNil (sa : Option Addr) (G sc : Nat) (w : World) : (binOp BinOp.eql 51 (.slice sa G sc) (.slice none 0 0)).run Try.prog w = .ok (.bool sa.isNone) w := by
  simp [binOp, run_equal_slice_nil w 51 65 sa G sc Try.underlying51]

def LawPost (w : World) (e : Ending) (w' : World) : Prop := e = .returned (.bool true) ∧ w.Since w.heap.size w'

set_option maxRecDepth 100000 in
set_option maxHeartbeats 8000000 in
theorem law_walk (node : ByteArray) (run seq : Int) (p : Bool) (ga : Option Addr) (gb go G Gc : Nat) (N : Nat → ByteArray) (R V : Nat → Int) (a b : Int) (w : World) (hnd : node.size ≤ maxLen) (hG : G ≤ maxLen) (hW : WfD G N R V) (hn : ga = none → G = 0) (hD : DIn w ga gb go G N R V) :
    Calls Try.prog 7 #[.string node, .int .u64 run, .int .u64 seq, .bool p, .slice ga G Gc, .int .u64 a, .int .u64 b] w (LawPost w) := by
  go_enter Try.func7, Try.ntmps7
  go_wp2_with fail
  refine (bytes_any node run seq p ga gb go G Gc N R V a b w hnd hG hW.n hD).mono ?_
  rintro e w ⟨⟨bb, rfl, hfit⟩, rfl⟩
  cases bb with
  | false =>
    go_wp2_with fail
    go_ret
    exact ⟨rfl, World.Since.refl _ _⟩
  | true =>
    have ft := hfit rfl
    clear hfit
    have hG1 : G ≤ 1048576 := ft.g
    have hnd1 : node.size ≤ 1048576 := ft.nd
    have hN1 := ft.k
    clear ft hnd hG
    have d1 : decide ((1048576 : Int) < (node.size : Int)) = false := by simp; omega
    go_wp2_with fail
    refine (deps_bytes ga gb go G Gc N R V _ w (by omega) (by omega) hG1 hN1 hD).mono ?_
    rintro e w ⟨⟨z, rfl⟩, rfl⟩
    by_cases hzz : 1048576 - (node.size : Int) < z
    · go_wp2_with fail
      go_ret
      exact ⟨rfl, World.Since.refl _ _⟩
    have d2 : decide (1048576 - (node.size : Int) < z) = false := by simp; omega
    clear hzz
    go_wp2_with fail
    refine (copy_any ga gb go G Gc N R V _ hG1 hn hD).mono ?_
    rintro e wc ⟨sa, sb, sc, rfl, sC, hDc, hsn⟩
    clear hD hn
    go_wp2_with fail
    refine (map_any sa sb 0 G sc N R V wc hG1 hsn hW hDc).mono ?_
    rintro e wm ⟨m, rfl, sM, hM, hmn⟩
    have HC : Hid (DIn wm sa sb 0 G N R V) := hDc.since sM
    have HS : Hid (w.Since w.heap.size wm) := sC.trans (since_mono sM sC.size)
    clear sC hDc sM d1 d2
    have HM : Hid (Src wm m G (built N R V G)) := hM
    have HN : Hid (m.isNone = sa.isNone) := hmn
    have HZ : Hid (sa = none → G = 0) := hsn
    have HW : Hid (WfD G N R V) := hW
    clear hM hmn hsn hW hN1
    by_cases hab : a < b
    all_goals
      first
        | have HG : Hid (greater a b = b) := if_pos hab
        | have HG : Hid (greater a b = a) := if_neg hab
      go_wp2_with fail
      refine (zz_below node run seq m G (built N R V G) a p _ hG1 (src_since (alloc1 wm _) HM.out)).mono ?_
      rintro e w1 ⟨m1, f1, s1, p1, rfl, S1, le1, hM1, hf1, hp1⟩
      have HU1 : Hid (w1.heap[wm.heap.size]? = some (.cells (uCells node run seq m p) 33 (0, 0))) := keepb S1 (heap_alloc_new wm _)
      have T1 : wm.Since wm.heap.size w1 := (alloc1 wm _).trans (since_mono S1 (by simp))
      have HT1 : Hid (wm.Since wm.heap.size w1) := T1
      have HF1 : Hid ((∀ x, OkO x → f1 x = keep a (built N R V G x)) ∧ (p1 = true ↔ p = true ∨ ∃ x v, OkO x ∧ built N R V G x = some v ∧ v ≤ a)) := ⟨hf1, hp1⟩
      clear S1 le1 T1 hf1 hp1
      go_wp2_with fail
      refine (zz_below node run seq (some m1) G f1 b p1 w1 hG1 (Or.inr ⟨m1, s1, rfl, hM1⟩)).mono ?_
      rintro e w2 ⟨m2, f2, s2, p2, rfl, S2, le2, hM2, hf2, hp2⟩
      have HU2 : Hid ((w2.alloc (.cells (uCells node run seq (some m2) p2) 33)).heap[wm.heap.size]? = some (.cells (uCells node run seq m p) 33 (0, 0))) := keepb (alloc1 w2 _) (keepb S2 HU1.out)
      have HT2 : Hid (wm.Since wm.heap.size (w2.alloc (.cells (uCells node run seq (some m2) p2) 33))) := (HT1.out.trans (since_mono S2 HT1.out.size)).alloc (Nat.le_trans HT1.out.size S2.size) _
      have HM2 : Hid (OM (w2.alloc (.cells (uCells node run seq (some m2) p2) 33)) m2 G f2 s2) := hM2.of_block ((alloc1 w2 _).block m2 hM2.lt)
      have HF2 : Hid ((∀ x, OkO x → f2 x = keep b (f1 x)) ∧ (p2 = true ↔ p1 = true ∨ ∃ x v, OkO x ∧ f1 x = some v ∧ v ≤ b)) := ⟨hf2, hp2⟩
      clear S2 le2 hM2 hf2 hp2 hM1 HU1 HT1
      rw [uVal_eq]
      go_wp2_with (first | (refine wpList_load_row rfl 33 _ rfl wm.heap.size rfl 33 (uCells node run seq m p) (0, 0) _ HU2.out Try.underlying33 rfl (size33 _ _ _ _ _) ?_))
      refine (zz_below node run seq m G (built N R V G) _ p _ hG1 (src_since HT2.out HM.out)).mono ?_
      rintro e w3 ⟨mo, fo, so, po, rfl, S3, le3, hMo, hfo, hpo⟩
      have S3' : (w2.alloc (.cells (uCells node run seq (some m2) p2) 33)).Since (w2.alloc (.cells (uCells node run seq (some m2) p2) 33)).heap.size w3 := S3
      obtain rfl : p2 = po := pruned_twice HF1.out.1 HF1.out.2 HF2.out.2 (by rw [HG.out]; exact hpo)
      have HE : Hid (∀ x, OkO x → f2 x = fo x) := fun x hx => by rw [HF2.out.1 x hx, HF1.out.1 x hx, keep_keep, HG.out, hfo x hx]
      have hlt : w2.heap.size < w3.heap.size := by have := S3'.size; simp at this; omega
      have hT3 := keepb S3' (heap_alloc_new w2 _)
      have c4 : w3.cell? ⟨w2.heap.size, 4, none⟩ = some (.map (some m2)) := by rw [ucell hT3]; rfl
      have S4 : (w2.alloc (.cells (uCells node run seq (some m2) p2) 33)).Since (w2.alloc (.cells (uCells node run seq (some m2) p2) 33)).heap.size (w3.alloc (.cells (uCells node run seq (some mo) p2) 33)) := S3'.alloc S3'.size _
      have HT4 : Hid (wm.Since wm.heap.size (w3.alloc (.cells (uCells node run seq (some mo) p2) 33))) := HT2.out.trans (since_mono S4 HT2.out.size)
      have HU4 : Hid ((w3.alloc (.cells (uCells node run seq (some mo) p2) 33)).heap[wm.heap.size]? = some (.cells (uCells node run seq m p) 33 (0, 0))) := keepb S4 HU2.out
      have HX4 : Hid ((w3.alloc (.cells (uCells node run seq (some mo) p2) 33)).heap[w2.heap.size]? = some (.cells (uCells node run seq (some m2) p2) 33 (0, 0))) := keepb S4 (heap_alloc_new w2 _)
      have HO4 : Hid ((w3.alloc (.cells (uCells node run seq (some mo) p2) 33)).heap[w3.heap.size]? = some (.cells (uCells node run seq (some mo) p2) 33 (0, 0))) := heap_alloc_new w3 _
      have HM4 : Hid (OM (w3.alloc (.cells (uCells node run seq (some mo) p2) 33)) m2 G f2 s2) := HM2.out.of_block (S4.block m2 HM2.out.lt)
      have HMo : Hid (OM (w3.alloc (.cells (uCells node run seq (some mo) p2) 33)) mo G fo so) := hMo.of_block ((alloc1 w3 _).block mo hMo.lt)
      clear S3 S3' le3 hMo hfo hpo hT3 S4 HU2 HT2 HM2 HF1 HF2 HG
      rw [uVal_eq]
      go_wp2_with fail
      refine (same_any sa sb 0 G sc N R V (some m2) (some mo) G G f2 fo _ hG1 HW.out (HC.out.since HT4.out) (Or.inr ⟨m2, s2, rfl, HM4.out⟩) (Or.inr ⟨mo, so, rfl, HMo.out⟩) rfl (fun h => by cases h) HE.out).mono ?_
      rintro e w5 ⟨rfl, S5⟩
      have S5' : (w3.alloc (.cells (uCells node run seq (some mo) p2) 33)).Since (w3.alloc (.cells (uCells node run seq (some mo) p2) 33)).heap.size w5 := S5
      have HT5 : Hid (wm.Since wm.heap.size w5) := HT4.out.trans (since_mono S5' HT4.out.size)
      have HU5 : Hid (w5.heap[wm.heap.size]? = some (.cells (uCells node run seq m p) 33 (0, 0))) := keepb S5' HU4.out
      have hX5 := keepb S5' HX4.out
      have hO5 := keepb S5' HO4.out
      have x6 : w5.cell? ⟨w2.heap.size, 6, none⟩ = some (.bool p2) := by rw [ucell hX5]; rfl
      have x3 : w5.cell? ⟨w2.heap.size, 3, none⟩ = some (.int .u64 seq) := by rw [ucell hX5]; rfl
      have o6 : w5.cell? ⟨w3.heap.size, 6, none⟩ = some (.bool p2) := by rw [ucell hO5]; rfl
      have o3 : w5.cell? ⟨w3.heap.size, 3, none⟩ = some (.int .u64 seq) := by rw [ucell hO5]; rfl
      clear S5 S5' hX5 hO5 HX4 HO4 HU4 HT4 HM4 HMo HE c4 hlt hab
      go_wp2_with (first | (refine wpList_load_row rfl 33 _ rfl wm.heap.size rfl 33 (uCells node run seq m p) (0, 0) _ HU5.out Try.underlying33 rfl (size33 _ _ _ _ _) ?_))
      refine (zz_nil node run seq m p w5).mono ?_
      rintro e w6 ⟨rfl, S6⟩
      have HU6 : Hid ((w6.alloc (.cells (uCells node run seq m p) 33)).drew.heap[wm.heap.size]? = some (.cells (uCells node run seq m p) 33 (0, 0))) := keepb (alloc1 w6 _).drew (keepb S6 HU5.out)
      have HT6 : Hid (wm.Since wm.heap.size (w6.alloc (.cells (uCells node run seq m p) 33)).drew) := ((HT5.out.trans (since_mono S6 HT5.out.size)).alloc (Nat.le_trans HT5.out.size S6.size) _).drew
      have k4 : (w6.alloc (.cells (uCells node run seq m p) 33)).drew.cell? ⟨w6.heap.size, 4, none⟩ = some (.map m) := by
        show (w6.alloc (.cells (uCells node run seq m p) 33)).cell? ⟨w6.heap.size, 4, none⟩ = some (.map m)
        rw [ucell (heap_alloc_new w6 _)]
        rfl
      have K4 : Hid ((w6.alloc (.cells (uCells node run seq m p) 33)).drew.cell? ⟨w6.heap.size, 4, none⟩ = some (.map m)) := k4
      clear S6 HU5 HT5 x6 x3 o6 o3 k4
      rw [uVal_eq]
      go_wp2_with fail
      have e31 : ∀ W : World, (binOp BinOp.eql 31 (.map m) (.map none)).run Try.prog W = .ok (.bool sa.isNone) W := fun W => by rw [← HN.out]; exact map_isNil m W
      have e51 : ∀ W : World, (binOp BinOp.eql 51 (.slice sa G sc) (.slice none 0 0)).run Try.prog W = .ok (.bool sa.isNone) W := fun W => slice_isNil sa G sc W
      have HQ : Hid (m = none → G = 0) := fun h => HZ.out (by have := HN.out; rw [h] at this; simpa using this.symm)
      generalize hq : sa.isNone = q at e31 e51
      have HQ2 : Hid (sa.isNone = q) := hq
      clear hq
      go_region_held3 (fun w' => w'.cell? ⟨w6.heap.size, 4, none⟩ = some (.map m)) (first | go_keep | exact K4.out | exact cell_keep Sa K4.out | exact cell_keep Sb (cell_keep Sa K4.out))
        (first
          | (go_at_call 26; refine (map_any sa sb 0 G sc N R V _ hG1 HZ.out HW.out (HC.out.since HT6.out)).mono ?_; rintro e wa ⟨m', rfl, Sa, hMa, hma⟩)
          | (go_at_call 28; refine (same_any sa sb 0 G sc N R V m m' G G (built N R V G) (built N R V G) wa hG1 HW.out (HC.out.since (HT6.out.trans (since_mono Sa HT6.out.size))) (src_since (HT6.out.trans (since_mono Sa HT6.out.size)) HM.out) hMa (HN.out.trans hma.symm) HQ.out (fun _ _ => rfl)).mono ?_; rintro e wb ⟨rfl, Sb⟩))
      have T7 : wm.Since wm.heap.size wb := (HT6.out.trans (since_mono Sa HT6.out.size)).trans (since_mono Sb (Nat.le_trans HT6.out.size Sa.size))
      have HT7 : Hid (wm.Since wm.heap.size wb) := T7
      have HU7 : Hid (wb.heap[wm.heap.size]? = some (.cells (uCells node run seq m p) 33 (0, 0))) := keepb Sb (keepb Sa HU6.out)
      clear T7 Sa Sb hMa hma HT6 HU6 K4 e31 e51 HQ HQ2
      go_wp2_with (first | (refine wpList_load_row rfl 33 _ rfl wm.heap.size rfl 33 (uCells node run seq m p) (0, 0) _ HU7.out Try.underlying33 rfl (size33 _ _ _ _ _) ?_))
      refine (zz_below node run seq m G (built N R V G) 18446744073709551615 p wb hG1 (src_since HT7.out HM.out)).mono ?_
      rintro e w9 ⟨mx, fx, sx, px, rfl, S9, le9, hMx, hfx, hpx⟩
      obtain rfl : sx = 0 := om_empty hMx (fun x hx => by rw [hfx x hx]; exact all_gone HW.out x)
      have hpp := all_pruned HW.out hpx
      have hlen : (Builtin.len_ #[31] 3 #[.map (some mx)]).run Try.prog (w9.alloc (.cells (uCells node run seq (some mx) px) 33)) = .ok (.int .i64 0) (w9.alloc (.cells (uCells node run seq (some mx) px) 33)) :=
        MapV.len (hMx.of_block ((alloc1 w9 _).block mx hMx.lt)) good31 3
      have HL : Hid (w.Since w.heap.size (w9.alloc (.cells (uCells node run seq (some mx) px) 33))) := by
        have h1 := HS.out.trans (since_mono HT7.out HS.out.size)
        exact (h1.trans (since_mono S9 h1.size)).alloc (Nat.le_trans h1.size S9.size) _
      have e31 : ∀ W : World, (binOp BinOp.eql 31 (.map (some mx)) (.map none)).run Try.prog W = .ok (.bool false) W := fun W => map_isNil (some mx) W
      clear S9 le9 hMx hfx hpx HT7 HU7 HM HC
      rw [uVal_eq]
      unfold uCells at hlen HL
      cases p
      · by_cases hG0 : (0 : Int) < (G : Int)
        · obtain rfl : px = true := by rw [hpp]; simp; omega
          clear hpp
          go_wp2_with fail
          go_ret
          exact ⟨by simp; omega, HL.out⟩
        · have d0 : decide ((0 : Int) < (G : Int)) = false := by simp; omega
          obtain rfl : px = false := by rw [hpp]; simp; omega
          clear hpp
          go_wp2_with fail
          go_ret
          exact ⟨by simp; omega, HL.out⟩
      · obtain rfl : px = true := by rw [hpp]; simp
        clear hpp
        go_wp2_with fail
        go_ret
        exact ⟨rfl, HL.out⟩
end Go.Proofs.Qxb6618715a
