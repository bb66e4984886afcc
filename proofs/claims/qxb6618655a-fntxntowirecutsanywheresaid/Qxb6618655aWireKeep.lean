/-
  leeway, the wire: ZZtxnToWire (21), and what the law keeps of it.
-/
import Derived.Test.Qxb6618655aWireBuild
import Derived.Test.Qxb6618655aWireSend
import Derived.Test.Qxb6618655aWireRead
import Derived.Test.Qxb6618655aWireSame
namespace Go.Proofs.Qxb6618655a
open Go.RowKit Go.Lib
set_option linter.unusedVariables false

/-- A transaction on the wire, as the law holds it. -/
structure Wire (wr : World) (bt b1 b2 G M : Nat) (F1 F2 : Nat → Value) (D : Nat → RD) (E : Nat → WD) : Prop where
  c0 : wr.cell? ⟨bt, 0, none⟩ = some (.slice (some ⟨b1, 0, none⟩) G G)
  c1 : wr.cell? ⟨bt, 1, none⟩ = some (.slice (some ⟨b2, 0, none⟩) M M)
  row1 : wr.rowIs b1 54 (G * 3) F1
  row2 : wr.rowIs b2 62 (M * 5) F2
  rd : RdOut wr F1 D G
  wt : WrOut wr F2 E M

theorem Wire.since {w w' : World} {bt b1 b2 G M : Nat} {F1 F2 : Nat → Value} {D : Nat → RD} {E : Nat → WD} (h : Wire w bt b1 b2 G M F1 F2 D E) (hs : w.Since w.heap.size w') : Wire w' bt b1 b2 G M F1 F2 D E :=
  ⟨cell_keep hs h.c0, cell_keep hs h.c1, h.row1.of_block (hs.block _ h.row1.lt), h.row2.of_block (hs.block _ h.row2.lt), h.rd.since hs, h.wt.since hs⟩

/-- The cells of the i-th read. -/
theorem Wire.rdAt {w : World} {bt b1 b2 G M : Nat} {F1 F2 : Nat → Value} {D : Nat → RD} {E : Nat → WD} (h : Wire w bt b1 b2 G M F1 F2 D E) {i : Nat} (hi : i < G) :
    ∃ m, w.cell? ⟨b1, i * 3, none⟩ = some (.string (D i).key) ∧ w.cell? ⟨b1, i * 3 + 1, none⟩ = some (.map m) ∧ w.cell? ⟨b1, i * 3 + 2, none⟩ = some (.string (hexS (D i).dig)) ∧ DepOK w (.map m) (D i) := by
  obtain ⟨h0, ⟨m, h1, h2⟩, h3⟩ := h.rd i hi
  refine ⟨m, ?_, ?_, ?_, h2⟩
  · rw [← h0]; exact h.row1.cell (by omega)
  · rw [← h1]; exact h.row1.cell (by omega)
  · rw [← h3]; exact h.row1.cell (by omega)

/-- The cells of the i-th write. -/
theorem Wire.wrAt {w : World} {bt b1 b2 G M : Nat} {F1 F2 : Nat → Value} {D : Nat → RD} {E : Nat → WD} (h : Wire w bt b1 b2 G M F1 F2 D E) {i : Nat} (hi : i < M) :
    ∃ os va vn vc dz pa, w.cell? ⟨b2, i * 5, none⟩ = some (.string os) ∧ w.cell? ⟨b2, i * 5 + 1, none⟩ = some (.string (E i).key) ∧ w.cell? ⟨b2, i * 5 + 2, none⟩ = some (.slice va vn vc) ∧ w.cell? ⟨b2, i * 5 + 3, none⟩ = some (.int .i64 dz) ∧ w.cell? ⟨b2, i * 5 + 4, none⟩ = some (.pointer pa) ∧
      WOut w (E i) (.string os) (.slice va vn vc) (.int .i64 dz) (.pointer pa) := by
  obtain ⟨h1, h2⟩ := h.wt i hi
  obtain ⟨os, va, vn, vc, dz, pa, e0, e2, e3, e4⟩ := h2.shape
  refine ⟨os, va, vn, vc, dz, pa, ?_, ?_, ?_, ?_, ?_, by rw [← e0, ← e2, ← e3, ← e4]; exact h2⟩
  · rw [← e0]; exact h.row2.cell (by omega)
  · rw [← h1]; exact h.row2.cell (by omega)
  · rw [← e2]; exact h.row2.cell (by omega)
  · rw [← e3]; exact h.row2.cell (by omega)
  · rw [← e4]; exact h.row2.cell (by omega)

def SentPost (w : World) (G M : Nat) (D : Nat → RD) (E : Nat → WD) (e : Ending) (w' : World) : Prop :=
  ∃ bt b1 b2 F1 F2, e = .returned (.pointer (some ⟨bt, 0, none⟩)) ∧ Wire w' bt b1 b2 G M F1 F2 D E ∧ w.Since w.heap.size w'

set_option maxRecDepth 100000 in
set_option maxHeartbeats 1000000 in
theorem zz_send (sbt sb1 sb2 G M : Nat) (S1 S2 : Nat → Value) (D : Nat → RD) (E : Nat → WD) (w0 w : World) (B : Nat) (hG : G ≤ 1048576) (hM : M ≤ 1048576)
    (hT : TxnAt w0 B w sb1 sb2 sbt G M S1 S2) (hrd : RdDone w S1 D G) (hwr : WrDone S2 E M) (hdig : ∀ j, j < G → (D j).Fit) (hop : OpW M E) :
    Calls Try.prog 21 #[.pointer (some ⟨sbt, 0, none⟩)] w (SentPost w G M D E) := by
  go_enter Try.func21, Try.ntmps21
  go_wp2_with fail
  refine (txn_to_wire sbt sb1 sb2 G M S1 S2 D E _ hG hM hT.c0 hT.c1 hT.row1 hT.row2 hrd hwr (fun j hj => (hdig j hj).dig) hop).mono ?_
  rintro e w1 ⟨b1, b2, bt, F1, F2, rfl, hX, h1, h2⟩
  go_wp2_with fail
  go_ret
  exact ⟨bt, b1, b2, F1, F2, rfl, ⟨hX.c0, hX.c1, hX.row1, hX.row2, h1, h2⟩, hX.since⟩

theorem fit_of {G : Nat} {D : Nat → RD} (h : SzR G D) (ht : TlR G D) : ∀ i, i < G → (D i).Fit := fun i hi => ⟨(h i hi).key, (h i hi).idl, (h i hi).ids, ht i hi, (h i hi).dig⟩

theorem RdIn.head {w : World} {ra ra' : Option Addr} {rb ro G c : Nat} {D : Nat → RD} (h : RdIn w ra rb ro G D) (hc : c ≤ G) (ha : 0 < c → ra' = some ⟨rb, ro, none⟩) : RdIn w ra' rb ro c D :=
  ⟨ha, fun i hi => h.c0 i (by omega), fun i hi => h.c1 i (by omega), fun i hi => h.c2 i (by omega), fun i hi => h.c3 i (by omega), fun i hi => h.inn i (by omega)⟩
theorem RdIn.tail {w : World} {ra ra' : Option Addr} {rb ro G c : Nat} {D : Nat → RD} (h : RdIn w ra rb ro G D) (hc : c ≤ G) (ha : 0 < G - c → ra' = some ⟨rb, ro + c * 4, none⟩) : RdIn w ra' rb (ro + c * 4) (G - c) (fun i => D (c + i)) := by
  have e : ∀ i, ro + c * 4 + i * 4 = ro + (c + i) * 4 := fun i => by omega
  refine ⟨ha, fun i hi => ?_, fun i hi => ?_, fun i hi => ?_, fun i hi => ?_, fun i hi => h.inn (c + i) (by omega)⟩
  · rw [e]; exact h.c0 (c + i) (by omega)
  · rw [e]; exact h.c1 (c + i) (by omega)
  · rw [e]; exact h.c2 (c + i) (by omega)
  · rw [e]; exact h.c3 (c + i) (by omega)
theorem WrIn.head {w : World} {ra ra' : Option Addr} {rb ro G c : Nat} {E : Nat → WD} (h : WrIn w ra rb ro G E) (hc : c ≤ G) (ha : 0 < c → ra' = some ⟨rb, ro, none⟩) : WrIn w ra' rb ro c E :=
  ⟨ha, fun i hi => h.c0 i (by omega), fun i hi => h.c1 i (by omega), fun i hi => h.c2 i (by omega), fun i hi => h.c3 i (by omega), fun i hi => h.c4 i (by omega), fun i hi => h.c5 i (by omega)⟩
theorem WrIn.tail {w : World} {ra ra' : Option Addr} {rb ro G c : Nat} {E : Nat → WD} (h : WrIn w ra rb ro G E) (hc : c ≤ G) (ha : 0 < G - c → ra' = some ⟨rb, ro + c * 6, none⟩) : WrIn w ra' rb (ro + c * 6) (G - c) (fun i => E (c + i)) := by
  have e : ∀ i, ro + c * 6 + i * 6 = ro + (c + i) * 6 := fun i => by omega
  refine ⟨ha, fun i hi => ?_, fun i hi => ?_, fun i hi => ?_, fun i hi => ?_, fun i hi => ?_, fun i hi => ?_⟩
  · rw [e]; exact h.c0 (c + i) (by omega)
  · rw [e]; exact h.c1 (c + i) (by omega)
  · rw [e]; exact h.c2 (c + i) (by omega)
  · rw [e]; exact h.c3 (c + i) (by omega)
  · rw [e]; exact h.c4 (c + i) (by omega)
  · rw [e]; exact h.c5 (c + i) (by omega)

/-- Two calls in a row: build, then send. -/
theorem build_since {w w' : World} {B b1 b2 bt G M : Nat} {F1 F2 : Nat → Value} (h : TxnAt w w.heap.size w' b1 b2 bt G M F1 F2) : w.Since w.heap.size w' := h.since
end Go.Proofs.Qxb6618655a
