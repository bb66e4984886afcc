/-
  leeway, the wire: Weight (42), toWire (38).
-/
import Derived.Test.Qxb6618655aWireRows
import Derived.Lib.ConvBytes
namespace Go.Proofs.Qxb6618655a
open Go.RowKit Go.Lib
set_option linter.unusedVariables false

def BytesAt (w : World) (b : Nat) (s : ByteArray) : Prop := ∃ C m, w.heap[b]? = some (.cells C 5 m) ∧ ∀ j, j < s.size → C[j]? = some (.int .u8 (s.data.toList.getD j 0).toNat)
def BoxAt (w : World) (b : Nat) (z : Int) : Prop := ∃ m, w.heap[b]? = some (.cells #[.int .i64 z] 2 m)

theorem BytesAt.of_block {w w' : World} {b : Nat} {s : ByteArray} (h : BytesAt w b s) (e : w'.heap[b]? = w.heap[b]?) : BytesAt w' b s := by
  obtain ⟨C, m, h1, h2⟩ := h
  exact ⟨C, m, e.trans h1, h2⟩
theorem BoxAt.of_block {w w' : World} {b : Nat} {z : Int} (h : BoxAt w b z) (e : w'.heap[b]? = w.heap[b]?) : BoxAt w' b z := by
  obtain ⟨m, h1⟩ := h
  exact ⟨m, e.trans h1⟩
theorem heap_lt {w : World} {b : Nat} {o : Obj} (h : w.heap[b]? = some o) : b < w.heap.size := (Array.getElem?_eq_some_iff.1 h).1
theorem BytesAt.lt {w : World} {b : Nat} {s : ByteArray} (h : BytesAt w b s) : b < w.heap.size := by
  obtain ⟨C, m, h1, h2⟩ := h
  exact heap_lt h1
theorem BoxAt.lt {w : World} {b : Nat} {z : Int} (h : BoxAt w b z) : b < w.heap.size := by
  obtain ⟨m, h1⟩ := h
  exact heap_lt h1
theorem BytesAt.cell {w : World} {b : Nat} {s : ByteArray} (h : BytesAt w b s) {j : Nat} (hj : j < s.size) : w.cell? ⟨b, j, none⟩ = some (.int .u8 (s.data.toList.getD j 0).toNat) := by
  obtain ⟨C, m, h1, h2⟩ := h
  exact (cell_of_row _ _ j _ _ _ h1).trans (h2 j hj)
theorem BoxAt.cell {w : World} {b : Nat} {z : Int} (h : BoxAt w b z) : w.cell? ⟨b, 0, none⟩ = some (.int .i64 z) := by
  obtain ⟨m, h1⟩ := h
  exact (cell_of_row _ _ 0 _ _ _ h1).trans rfl

/-- The weight that goes out. -/
def WD.weight (d : WD) : Int := if d.wd = true then d.wt else 1

def opPut : Value := .string ⟨#[112, 117, 116]⟩
def opAdd : Value := .string ⟨#[97, 100, 100]⟩
def opDel : Value := .string ⟨#[100, 101, 108, 101, 116, 101]⟩

/-- The cells of a write on the wire. -/
def WOut (w : World) (d : WD) (o v dl p : Value) : Prop :=
  (d.op = 1 ∧ o = .string ⟨#[112, 117, 116]⟩ ∧ (∃ vb vc, v = .slice (some ⟨vb, 0, none⟩) d.val.size vc ∧ BytesAt w vb d.val) ∧ dl = .int .i64 0 ∧ ∃ pb, p = .pointer (some ⟨pb, 0, none⟩) ∧ BoxAt w pb d.weight) ∨
  (d.op = 2 ∧ o = .string ⟨#[97, 100, 100]⟩ ∧ v = .slice none 0 0 ∧ dl = .int .i64 d.dlt ∧ p = .pointer none) ∨
  (d.op = 4 ∧ o = .string ⟨#[100, 101, 108, 101, 116, 101]⟩ ∧ v = .slice none 0 0 ∧ dl = .int .i64 0 ∧ ∃ pb, p = .pointer (some ⟨pb, 0, none⟩) ∧ BoxAt w pb d.weight) ∨
  (d.op ≠ 1 ∧ d.op ≠ 2 ∧ d.op ≠ 4 ∧ o = .string ⟨#[]⟩ ∧ v = .slice none 0 0 ∧ dl = .int .i64 0 ∧ p = .pointer none)

theorem WOut.mono {w w' : World} {d : WD} {o v dl p : Value} (h : WOut w d o v dl p) (hb : ∀ {b s}, BytesAt w b s → BytesAt w' b s) (hx : ∀ {b z}, BoxAt w b z → BoxAt w' b z) : WOut w' d o v dl p := by
  rcases h with ⟨h1, h2, ⟨vb, vc, h3, h4⟩, h5, pb, h6, h7⟩ | h | ⟨h1, h2, h3, h5, pb, h6, h7⟩ | h
  · exact Or.inl ⟨h1, h2, ⟨vb, vc, h3, hb h4⟩, h5, pb, h6, hx h7⟩
  · exact Or.inr (Or.inl h)
  · exact Or.inr (Or.inr (Or.inl ⟨h1, h2, h3, h5, pb, h6, hx h7⟩))
  · exact Or.inr (Or.inr (Or.inr h))

theorem WOut.since {w w' : World} {d : WD} {o v dl p : Value} (h : WOut w d o v dl p) (hs : w.Since w.heap.size w') : WOut w' d o v dl p :=
  h.mono (fun hb => hb.of_block (hs.block _ hb.lt)) (fun hb => hb.of_block (hs.block _ hb.lt))

theorem bytes_ne_row {w : World} {b b1 : Nat} {s : ByteArray} {t : TypeId} {k : Nat} {F : Nat → Value} (h : BytesAt w b s) (hr : w.rowIs b1 t k F) (ht : t ≠ 5) : b ≠ b1 := by
  rintro rfl
  obtain ⟨C, m, h1, _⟩ := h
  obtain ⟨c, hc, _⟩ := hr
  rw [h1] at hc
  cases hc
  exact ht rfl
theorem box_ne_row {w : World} {b b1 : Nat} {z : Int} {t : TypeId} {k : Nat} {F : Nat → Value} (h : BoxAt w b z) (hr : w.rowIs b1 t k F) (ht : t ≠ 2) : b ≠ b1 := by
  rintro rfl
  obtain ⟨m, h1⟩ := h
  obtain ⟨c, hc, _⟩ := hr
  rw [h1] at hc
  cases hc
  exact ht rfl

theorem WOut.setCells {w : World} {d : WD} {o v dl p : Value} (h : WOut w d o v dl p) {b1 : Nat} {t : TypeId} {k : Nat} {F : Nat → Value} (hr : w.rowIs b1 t k F) (h5 : t ≠ 5) (h2 : t ≠ 2) (off : Nat) (vs : List Value) : WOut (w.setCells b1 off vs) d o v dl p :=
  h.mono (fun hb => hb.of_block (setCells_heap _ _ _ _ (bytes_ne_row hb hr h5))) (fun hb => hb.of_block (setCells_heap _ _ _ _ (box_ne_row hb hr h2)))

def WeightPost (op giv : Int) (wgh : Bool) (w : World) (e : Ending) (w' : World) : Prop := ∃ z, e = .returned (.int .i64 z) ∧ (op ≠ 2 → op ≠ 3 → z = if wgh = true then giv else 1) ∧ w.Since w.heap.size w'

set_option maxRecDepth 100000 in
set_option maxHeartbeats 1000000 in
theorem weight_is (op : Int) (key val : ByteArray) (dlt giv : Int) (wgh : Bool) (w : World) :
    Calls Try.prog 42 #[.agg (sCells op key val dlt giv wgh)] w (WeightPost op giv wgh w) := by
  unfold sCells
  go_enter Try.func42, Try.ntmps42
  by_cases h2 : op = 2
  · have e2 : (op == 2) = true := by simp [h2]
    have H2 : Hid (op = 2) := h2
    clear h2
    go_wp2_with fail
    go_ret
    exact ⟨_, rfl, fun h => absurd H2.out h, alloc1 w _⟩
  by_cases h3 : op = 3
  · have e2 : (op == 2) = false := by simp [h2]
    have e3 : (op == 3) = true := by simp [h3]
    have H3 : Hid (op = 3) := h3
    clear h2 h3
    go_wp2_with fail
    go_ret
    exact ⟨_, rfl, fun _ h => absurd H3.out h, alloc1 w _⟩
  have e2 : (op == 2) = false := by simp [h2]
  have e3 : (op == 3) = false := by simp [h3]
  clear h2 h3
  cases wgh with
  | true =>
    go_wp2_with fail
    go_ret
    exact ⟨_, rfl, fun _ _ => rfl, alloc1 w _⟩
  | false =>
    go_wp2_with fail
    go_ret
    exact ⟨_, rfl, fun _ _ => rfl, alloc1 w _⟩

theorem WD.weight_eq (d : WD) : (if d.wgh = true then d.giv else 1) = d.weight := by
  unfold WD.wgh WD.giv WD.weight
  by_cases h : d.wd = true
  · by_cases h1 : d.wt = 1
    · simp [h, h1]
    · simp [h, h1]
  · simp [h]
end Go.Proofs.Qxb6618655a
