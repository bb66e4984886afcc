/-
  leeway, the wire: rows of many cells, a struct at a time.
-/
import Derived.Test.Qxb6618655aWireTxn
namespace Go.Proofs.Qxb6618655a
open Go.RowKit Go.Lib
set_option linter.unusedVariables false

theorem setCells_heap (b : Nat) : ∀ (vs : List Value) (o : Nat) (w : World) {k : Nat}, k ≠ b → (w.setCells b o vs).heap[k]? = w.heap[k]?
  | [], _, _, _, _ => rfl
  | v :: r, o, w, k, h => by
    rw [World.setCells, setCells_heap b r (o + 1) _ h]
    exact Below.heap_setCell w ⟨b, o, none⟩ v k h

theorem setCells_cell {w : World} {b2 o : Nat} {vs : List Value} {b c : Nat} {v : Value} (hne : b ≠ b2) (h : w.cell? ⟨b, c, none⟩ = some v) : (w.setCells b2 o vs).cell? ⟨b, c, none⟩ = some v := by
  rw [World.cell?_of_block (w := w) (setCells_heap b2 vs o w hne)]
  exact h

theorem since_setCells {B b : Nat} {w : World} (hb : B ≤ b) : ∀ (vs : List Value) (o : Nat) {w' : World}, w.Since B w' → w.Since B (w'.setCells b o vs)
  | [], _, _, h => h
  | v :: r, o, w', h => by
    rw [World.setCells]
    exact since_setCells hb r (o + 1) (h.setCell hb v)

theorem size_setCells (b : Nat) : ∀ (vs : List Value) (o : Nat) (w : World), (w.setCells b o vs).heap.size = w.heap.size
  | [], _, _ => rfl
  | v :: r, o, w => by
    rw [World.setCells, size_setCells b r (o + 1)]
    simp [World.setCell]

theorem rowIs_setCells {b : Nat} {t : TypeId} {n : Nat} : ∀ (vs : List Value) (o : Nat) {w : World} {F : Nat → Value}, w.rowIs b t n F →
    ∃ F', (w.setCells b o vs).rowIs b t n F' ∧ (∀ q, q < vs.length → vs[q]? = some (F' (o + q))) ∧ ∀ c, (c < o ∨ o + vs.length ≤ c) → F' c = F c
  | [], o, w, F, h => ⟨F, h, fun q hq => absurd hq (by simp), fun _ _ => rfl⟩
  | v :: r, o, w, F, h => by
    obtain ⟨F', h', hin, hout⟩ := rowIs_setCells r (o + 1) (h.set o v)
    refine ⟨F', h', fun q hq => ?_, fun c hc => ?_⟩
    · cases q with
      | zero =>
        have := hout o (Or.inl (by omega))
        simp at this
        simp [this]
      | succ q =>
        have := hin q (by simp at hq; omega)
        rw [show o + (q + 1) = o + 1 + q by omega]
        simpa using this
    · simp at hc
      rw [hout c (by omega), if_neg (by omega)]

theorem rowIs_there {w : World} {b : Nat} {t : TypeId} {n : Nat} {F : Nat → Value} (h : w.rowIs b t n F) {o k : Nat} (ho : o + k ≤ n) : w.there b o k := fun j hj =>
  ⟨by rw [h.cell (by omega)]; rfl, h.frozen _⟩

theorem rowIs_range {w : World} {b : Nat} {t : TypeId} {n : Nat} {F : Nat → Value} (h : w.rowIs b t n F) {o : Nat} {cs : List Value} (ho : o + cs.length ≤ n) (hc : ∀ q, q < cs.length → cs[q]? = some (F (o + q))) : w.rangeAt b o cs := fun j v hv => by
  have hj : j < cs.length := (List.getElem?_eq_some_iff.1 hv).1
  rw [h.cell (by omega), ← hc j hj, hv]

theorem range_setCells_other {w : World} {b b2 o o2 : Nat} {cs vs : List Value} (hne : b ≠ b2) (h : w.rangeAt b o cs) : (w.setCells b2 o2 vs).rangeAt b o cs := World.rangeAt_setCells_apart h _ _ _ (Or.inl hne)

theorem range_keep {w w' : World} {b o : Nat} {cs : List Value} (hs : w.Since w.heap.size w') (h : w.rangeAt b o cs) : w'.rangeAt b o cs := fun j v hv => cell_keep hs (h j v hv)

theorem DepOK.setCells {v : Value} {d : RD} {b1 : Nat} {t : TypeId} {k : Nat} : ∀ (vs : List Value) (o : Nat) {w : World} {F : Nat → Value}, DepOK w v d → w.rowIs b1 t k F → DepOK (w.setCells b1 o vs) v d
  | [], _, _, _, h, _ => h
  | x :: r, o, w, F, h, hr => by
    rw [World.setCells]
    exact DepOK.setCells r (o + 1) (h.setRow hr o x) (hr.set o x)

theorem WD.sc_size (d : WD) : d.sc.size = 11 := rfl
theorem WD.sc_len (d : WD) : d.sc.toList.length = 11 := rfl

theorem TxnAt.stepW {w wr w5 : World} {B b1 b2 bt G M : Nat} {F1 F2 : Nat → Value} {D : Nat → RD} {E : Nat → WD} {i : Nat} (hT : TxnAt w B wr b1 b2 bt G M F1 F2) (hdn : RdDone wr F1 D G) (hwd : WrDone F2 E i) (hs : wr.Since wr.heap.size w5) (hi : i < M) :
    ∃ F2', TxnAt w B (w5.setCells b2 (i * 11) (E i).sc.toList) b1 b2 bt G M F1 F2' ∧ RdDone (w5.setCells b2 (i * 11) (E i).sc.toList) F1 D G ∧ WrDone F2' E (i + 1) := by
  have r1 : w5.rowIs b1 99 (G * 3) F1 := hT.row1.of_block (hs.block _ hT.row1.lt)
  have r2 : w5.rowIs b2 104 (M * 11) F2 := hT.row2.of_block (hs.block _ hT.row2.lt)
  have hsz := Nat.le_trans hT.l1 (Nat.le_of_lt hT.row1.lt)
  obtain ⟨F2', r2', hin, hout⟩ := rowIs_setCells (E i).sc.toList (i * 11) r2
  rw [WD.sc_len] at hin hout
  refine ⟨F2', ⟨since_setCells hT.l2 _ _ (hT.since.trans (since_mono hs (by omega))), hT.l1, hT.l2, hT.lt, hT.n12, hT.n1t, hT.n2t, r1.of_block (setCells_heap _ _ _ _ hT.n12), r2', setCells_cell (Ne.symm hT.n2t) (cell_keep hs hT.c0), setCells_cell (Ne.symm hT.n2t) (cell_keep hs hT.c1)⟩, fun j hj => ?_, fun j hj q hq => ?_⟩
  · obtain ⟨d0, d1, d2⟩ := hdn j hj
    exact ⟨d0, DepOK.setCells _ _ (d1.since hs) r2, d2⟩
  · by_cases e : j = i
    · subst e
      have := hin q hq
      simpa using this
    · rw [hout _ (by omega)]
      exact hwd j (by omega) q hq
end Go.Proofs.Qxb6618655a
