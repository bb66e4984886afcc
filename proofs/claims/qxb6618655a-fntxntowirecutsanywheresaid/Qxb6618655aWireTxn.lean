/-
  leeway, the wire: zzBuildTxn (22).
-/
import Derived.Test.Qxb6618655aWireWrite
namespace Go.Proofs.Qxb6618655a
open Go.RowKit Go.Lib
set_option linter.unusedVariables false

theorem info99 : (Try.prog.info? 99).map (fun i => (i.zero.isSome, i.size, decide (i.bytes ≤ 1000))) = some (true, 3, true) := by kernel_rfl
theorem info104 : (Try.prog.info? 104).map (fun i => (i.zero.isSome, i.size, decide (i.bytes ≤ 1000))) = some (true, 11, true) := by kernel_rfl

theorem make_any {t e : TypeId} {sz : Nat} (ht : Try.prog.underlying t = some (.slice e)) (hinfo : (Try.prog.info? e).map (fun i => (i.zero.isSome, i.size, decide (i.bytes ≤ 1000))) = some (true, sz, true)) (G : Nat) (hG : G ≤ 1048576) :
    ∃ C : Array Value, C.size = G * sz ∧ ∀ w : World, (Instr.makeSlice t (.int .i64 (G : Int)) (.int .i64 (G : Int))).run Try.prog w = .ok (.slice (some ⟨w.heap.size, 0, none⟩) G G) (w.alloc (.cells C e)) := by
  obtain ⟨i, hi, hzz⟩ := Option.map_eq_some_iff.1 hinfo
  simp only [Prod.mk.injEq, decide_eq_true_eq] at hzz
  obtain ⟨hz, hs, hb2⟩ := hzz
  obtain ⟨z, hz⟩ := Option.isSome_iff_exists.1 hz
  refine ⟨madeCells z.cells (G * sz), by rw [size_madeCells], fun w => ?_⟩
  have h := run_make (P := Try.prog) w t e i z ht hi hz .i64 .i64 (G : Int) (G : Int) (by omega) (by omega) (by
    have h1 : ((i.bytes : Int)) * (G : Int) ≤ 1000 * 1048576 := by
      apply Int.mul_le_mul <;> omega
    omega) (by omega)
  rw [hs] at h
  simpa using h

/-- A transaction of the store in memory: its two rows and its box. -/
structure TxnAt (w : World) (B : Nat) (wr : World) (b1 b2 bt G M : Nat) (F1 F2 : Nat → Value) : Prop where
  since : w.Since B wr
  l1 : B ≤ b1
  l2 : B ≤ b2
  lt : B ≤ bt
  n12 : b1 ≠ b2
  n1t : b1 ≠ bt
  n2t : b2 ≠ bt
  row1 : wr.rowIs b1 99 (G * 3) F1
  row2 : wr.rowIs b2 104 (M * 11) F2
  c0 : wr.cell? ⟨bt, 0, none⟩ = some (.slice (some ⟨b1, 0, none⟩) G G)
  c1 : wr.cell? ⟨bt, 1, none⟩ = some (.slice (some ⟨b2, 0, none⟩) M M)

theorem third (w : World) (o1 o2 o3 : Obj) : (((w.alloc o1).alloc o2).alloc o3).heap[w.heap.size + 1 + 1]? = some o3 := by
  show (((w.heap.push o1).push o2).push o3)[w.heap.size + 1 + 1]? = _
  rw [Array.getElem?_push, if_pos (by simp)]
theorem size_alloc (w : World) (o : Obj) : (w.alloc o).heap.size = w.heap.size + 1 := by simp

theorem txn12 (w : World) (G M : Nat) (C1 C2 : Array Value) (h1 : C1.size = G * 3) (h2 : C2.size = M * 11) :
    TxnAt w w.heap.size (((w.alloc (.cells C1 99)).alloc (.cells C2 104)).alloc (.cells #[.slice (some ⟨w.heap.size, 0, none⟩) G G, .slice (some ⟨w.heap.size + 1, 0, none⟩) M M] 96)).drew w.heap.size (w.heap.size + 1) (w.heap.size + 1 + 1) G M (fun i => (C1[i]?).getD undef) (fun i => (C2[i]?).getD undef) := by
  refine ⟨(((alloc2 w _ _).alloc (by simp; omega) _)).drew, Nat.le_refl _, by omega, by omega, by omega, by omega, by omega, ?_, ?_, (cell_of_row _ _ 0 _ _ _ (third w _ _ _)).trans rfl, (cell_of_row _ _ 1 _ _ _ (third w _ _ _)).trans rfl⟩
  · rw [← h1]
    exact ((World.rowIs_alloc w C1 99 _ (fun i hi => by simp [hi])).alloc _).alloc _
  · have := (World.rowIs_alloc (w.alloc (.cells C1 99)) C2 104 (fun i => (C2[i]?).getD undef) (fun i hi => by simp [hi])).alloc (.cells #[.slice (some ⟨w.heap.size, 0, none⟩) G G, .slice (some ⟨w.heap.size + 1, 0, none⟩) M M] 96)
    rw [h2, size_alloc] at this
    exact this
theorem txn21 (w : World) (G M : Nat) (C1 C2 : Array Value) (h1 : C1.size = G * 3) (h2 : C2.size = M * 11) :
    TxnAt w w.heap.size (((w.alloc (.cells C2 104)).alloc (.cells C1 99)).alloc (.cells #[.slice (some ⟨w.heap.size + 1, 0, none⟩) G G, .slice (some ⟨w.heap.size, 0, none⟩) M M] 96)).drew (w.heap.size + 1) w.heap.size (w.heap.size + 1 + 1) G M (fun i => (C1[i]?).getD undef) (fun i => (C2[i]?).getD undef) := by
  refine ⟨(((alloc2 w _ _).alloc (by simp; omega) _)).drew, by omega, Nat.le_refl _, by omega, by omega, by omega, by omega, ?_, ?_, (cell_of_row _ _ 0 _ _ _ (third w _ _ _)).trans rfl, (cell_of_row _ _ 1 _ _ _ (third w _ _ _)).trans rfl⟩
  · have := (World.rowIs_alloc (w.alloc (.cells C2 104)) C1 99 (fun i => (C1[i]?).getD undef) (fun i hi => by simp [hi])).alloc (.cells #[.slice (some ⟨w.heap.size + 1, 0, none⟩) G G, .slice (some ⟨w.heap.size, 0, none⟩) M M] 96)
    rw [h1, size_alloc] at this
    exact this
  · rw [← h2]
    exact ((World.rowIs_alloc w C2 104 _ (fun i hi => by simp [hi])).alloc _).alloc _

def RdDone (w : World) (F1 : Nat → Value) (D : Nat → RD) (k : Nat) : Prop := ∀ j, j < k → F1 (j * 3) = .string (D j).key ∧ DepOK w (F1 (j * 3 + 1)) (D j) ∧ F1 (j * 3 + 2) = .string (D j).dig
def WrDone (F2 : Nat → Value) (E : Nat → WD) (k : Nat) : Prop := ∀ j, j < k → ∀ q, q < 11 → (E j).sc[q]? = some (F2 (j * 11 + q))

theorem deps_map (d : RD) (w : World) (hI : d.In w) (hF : d.Fit) :
    Calls Try.prog 30 #[.agg #[.string d.key, .slice d.ida d.idl d.idc, .slice d.ta d.tl d.tc, .string d.dig]] w fun e w' => ∃ m, e = .returned (.map m) ∧ DepOK w' (.map m) d ∧ w.Since w.heap.size w' := by
  refine (deps_any d w hI hF).mono ?_
  rintro e w' ⟨v, rfl, hd, hs⟩
  have : ∃ m, v = .map m := by
    rcases hd with ⟨_, rfl⟩ | ⟨_, b, sz, rfl, _⟩
    · exact ⟨_, rfl⟩
    · exact ⟨_, rfl⟩
  obtain ⟨m, rfl⟩ := this
  exact ⟨m, rfl, hd, hs⟩

/-- What the cell holds. -/
def vat (w : World) (b o : Nat) : Value := (w.cell? ⟨b, o, none⟩).getD undef
theorem vat_of {w : World} {b o : Nat} {v : Value} (h : w.cell? ⟨b, o, none⟩ = some v) : w.cell? ⟨b, o, none⟩ = some (vat w b o) := by simp [vat, h]
theorem frozen_keep {w w' : World} (hs : w.Since w.heap.size w') {b o : Nat} (hb : b < w.heap.size) (h : w.frozen? ⟨b, o, none⟩ = false) : w'.frozen? ⟨b, o, none⟩ = false := by
  rw [World.frozen?_of_block (w := w) (hs.block b hb)]; exact h

theorem set3_other {w : World} {b1 o0 o1 o2 : Nat} {v0 v1 v2 : Value} {b o : Nat} {v : Value} (hne : b ≠ b1) (h : w.cell? ⟨b, o, none⟩ = some v) : (((w.setCell ⟨b1, o0, none⟩ v0).setCell ⟨b1, o1, none⟩ v1).setCell ⟨b1, o2, none⟩ v2).cell? ⟨b, o, none⟩ = some v := by
  rw [World.cell?_of_block (w := w) ((Below.heap_setCell _ _ _ _ hne).trans ((Below.heap_setCell _ _ _ _ hne).trans (Below.heap_setCell _ _ _ _ hne)))]
  exact h

def BuildPost (w : World) (G M : Nat) (D : Nat → RD) (E : Nat → WD) (e : Ending) (w' : World) : Prop :=
  ∃ b1 b2 bt F1 F2, e = .returned (.pointer (some ⟨bt, 0, none⟩)) ∧ TxnAt w w.heap.size w' b1 b2 bt G M F1 F2 ∧ RdDone w' F1 D G ∧ WrDone F2 E M

theorem map_ne_row {w : World} {b n sz : Nat} {f : ByteArray → Option Int} {b1 : Nat} {t : TypeId} {k : Nat} {F : Nat → Value} (h : IM w b n f sz) (hr : w.rowIs b1 t k F) : b ≠ b1 := by
  rintro rfl
  obtain ⟨Dm, ⟨es, clock, hb, _⟩, _⟩ := h
  obtain ⟨c, hc, _⟩ := hr
  rw [hb] at hc
  cases hc

theorem DepOK.setRow {w : World} {v : Value} {d : RD} {b1 : Nat} {t : TypeId} {k : Nat} {F : Nat → Value} (h : DepOK w v d) (hr : w.rowIs b1 t k F) (o : Nat) (x : Value) : DepOK (w.setCell ⟨b1, o, none⟩ x) v d := by
  rcases h with h | ⟨ha, b, sz, rfl, hm⟩
  · exact Or.inl h
  · exact Or.inr ⟨ha, b, sz, rfl, hm.of_block (Below.heap_setCell w ⟨b1, o, none⟩ x b (map_ne_row hm hr))⟩

theorem TxnAt.stepR {w wr w5 : World} {B b1 b2 bt G M : Nat} {F1 F2 : Nat → Value} {D : Nat → RD} {i : Nat} {m : Option Nat} (hT : TxnAt w B wr b1 b2 bt G M F1 F2) (hB : w.heap.size = B) (hdn : RdDone wr F1 D i) (hs5 : wr.drew.Since wr.drew.heap.size w5) (hd5 : DepOK w5 (.map m) (D i)) (hi : i < G) :
    ∃ F1', TxnAt w B (((w5.setCell ⟨b1, i * 3, none⟩ (.string (D i).key)).setCell ⟨b1, i * 3 + 1, none⟩ (.map m)).setCell ⟨b1, i * 3 + 2, none⟩ (.string (D i).dig)) b1 b2 bt G M F1' F2 ∧
      RdDone (((w5.setCell ⟨b1, i * 3, none⟩ (.string (D i).key)).setCell ⟨b1, i * 3 + 1, none⟩ (.map m)).setCell ⟨b1, i * 3 + 2, none⟩ (.string (D i).dig)) F1' D (i + 1) := by
  have hs : wr.Since wr.heap.size w5 := ⟨hs5.os, hs5.tape, hs5.output, hs5.size, hs5.block⟩
  have r1 : w5.rowIs b1 99 (G * 3) F1 := hT.row1.of_block (hs.block _ hT.row1.lt)
  have r2 : w5.rowIs b2 104 (M * 11) F2 := hT.row2.of_block (hs.block _ hT.row2.lt)
  have hsz := hT.since.size
  refine ⟨_, ⟨?_, hT.l1, hT.l2, hT.lt, hT.n12, hT.n1t, hT.n2t, ((r1.set _ _).set _ _).set _ _, ((r2.setOther (Ne.symm hT.n12) _).setOther (Ne.symm hT.n12) _).setOther (Ne.symm hT.n12) _, set3_other (Ne.symm hT.n1t) (cell_keep hs hT.c0), set3_other (Ne.symm hT.n1t) (cell_keep hs hT.c1)⟩, fun j hj => ?_⟩
  · exact (((hT.since.trans (since_mono hs (by omega))).setCell hT.l1 _).setCell hT.l1 _).setCell hT.l1 _
  · have keepD : ∀ {v : Value} {d : RD}, DepOK w5 v d → DepOK (((w5.setCell ⟨b1, i * 3, none⟩ (.string (D i).key)).setCell ⟨b1, i * 3 + 1, none⟩ (.map m)).setCell ⟨b1, i * 3 + 2, none⟩ (.string (D i).dig)) v d := fun h =>
      ((h.setRow r1 _ _).setRow (r1.set _ _) _ _).setRow ((r1.set _ _).set _ _) _ _
    by_cases e : j = i
    · subst e
      refine ⟨by simp, ?_, by simp⟩
      have : (if j * 3 + 1 = j * 3 + 2 then Value.string (D j).dig else if j * 3 + 1 = j * 3 + 1 then Value.map m else if j * 3 + 1 = j * 3 then Value.string (D j).key else F1 (j * 3 + 1)) = Value.map m := by simp
      rw [this]
      exact keepD hd5
    · obtain ⟨d0, d1, d2⟩ := hdn j (by omega)
      refine ⟨?_, ?_, ?_⟩
      · rw [if_neg (by omega), if_neg (by omega), if_neg (by omega)]; exact d0
      · rw [if_neg (by omega), if_neg (by omega), if_neg (by omega)]; exact keepD (d1.since hs)
      · rw [if_neg (by omega), if_neg (by omega), if_neg (by omega)]; exact d2

/-- The 11 cells of the i-th write, laid one by one. -/
def setW (w5 : World) (b2 i : Nat) (d : WD) : World := (((((((((((w5.setCell ⟨b2, i * 11, none⟩ (.int .i64 0)).setCell ⟨b2, i * 11 + 1, none⟩ (.string ⟨#[]⟩)).setCell ⟨b2, i * 11 + 2, none⟩ (.int .u8 d.op)).setCell ⟨b2, i * 11 + 3, none⟩ (.string d.key)).setCell ⟨b2, i * 11 + 4, none⟩ (.string d.val)).setCell ⟨b2, i * 11 + 5, none⟩ (.int .i64 d.dlt)).setCell ⟨b2, i * 11 + 6, none⟩ (.pointer none)).setCell ⟨b2, i * 11 + 7, none⟩ (.int .i64 d.giv)).setCell ⟨b2, i * 11 + 8, none⟩ (.bool d.wgh)).setCell ⟨b2, i * 11 + 9, none⟩ (.int .i64 0)).setCell ⟨b2, i * 11 + 10, none⟩ (.int .i64 0))

theorem setW_heap (w5 : World) (b2 i : Nat) (d : WD) {k : Nat} (h : k ≠ b2) : (setW w5 b2 i d).heap[k]? = w5.heap[k]? := by
  unfold setW
  simp only [Below.heap_setCell _ _ _ _ (show k ≠ (⟨b2, _, none⟩ : Addr).block from h)]

theorem setW_row {w5 : World} {b2 i M : Nat} {d : WD} {F : Nat → Value} (h : w5.rowIs b2 104 (M * 11) F) : ∃ F', (setW w5 b2 i d).rowIs b2 104 (M * 11) F' ∧ (∀ q, q < 11 → d.sc[q]? = some (F' (i * 11 + q))) ∧ ∀ c, (∀ q, q < 11 → c ≠ i * 11 + q) → F' c = F c := by
  unfold setW
  refine ⟨_, (((((((((((h.set _ _).set _ _).set _ _).set _ _).set _ _).set _ _).set _ _).set _ _).set _ _).set _ _).set _ _), fun q hq => ?_, fun c hc => ?_⟩
  · have : q = 0 ∨ q = 1 ∨ q = 2 ∨ q = 3 ∨ q = 4 ∨ q = 5 ∨ q = 6 ∨ q = 7 ∨ q = 8 ∨ q = 9 ∨ q = 10 := by omega
    rcases this with rfl | rfl | rfl | rfl | rfl | rfl | rfl | rfl | rfl | rfl | rfl <;> simp [WD.sc, sCells]
  · have e0 := hc 0 (by omega)
    have e1 := hc 1 (by omega)
    have e2 := hc 2 (by omega)
    have e3 := hc 3 (by omega)
    have e4 := hc 4 (by omega)
    have e5 := hc 5 (by omega)
    have e6 := hc 6 (by omega)
    have e7 := hc 7 (by omega)
    have e8 := hc 8 (by omega)
    have e9 := hc 9 (by omega)
    have e10 := hc 10 (by omega)
    simp only [Nat.add_zero] at e0
    simp [e0, e1, e2, e3, e4, e5, e6, e7, e8, e9, e10]

theorem store_write' (d : WD) (w : World) :
    Calls Try.prog 31 #[.agg #[.int .u8 d.op, .string d.key, .string d.val, .int .i64 d.dlt, .bool d.wd, .int .i64 d.wt]] w fun e w' => e = .returned (.agg #[.int .i64 0, .string ⟨#[]⟩, .int .u8 d.op, .string d.key, .string d.val, .int .i64 d.dlt, .pointer none, .int .i64 d.giv, .bool d.wgh, .int .i64 0, .int .i64 0]) ∧ w.Since w.heap.size w' := store_write d w

end Go.Proofs.Qxb6618655a
