/-
  leeway, the wire: toWire (38).
-/
import Derived.Test.Qxb6618655aWireOut
namespace Go.Proofs.Qxb6618655a
open Go.RowKit Go.Lib
set_option linter.unusedVariables false

theorem after3 {w w1 : World} {o1 o2 o3 : Obj} (hs : (((w.alloc o1).alloc o2).alloc o3).Since (((w.alloc o1).alloc o2).alloc o3).heap.size w1) :
    w1.heap[w.heap.size]? = some o1 ∧ w1.heap[w.heap.size + 1]? = some o2 ∧ w1.heap[w.heap.size + 1 + 1]? = some o3 ∧ w.Since w.heap.size w1 ∧ w.heap.size + 3 ≤ w1.heap.size := by
  have h6 : (((w.alloc o1).alloc o2).alloc o3).heap.size = w.heap.size + 3 := by simp
  have h5 : w.Since w.heap.size (((w.alloc o1).alloc o2).alloc o3) := (alloc2 w _ _).alloc (by simp; omega) _
  rw [h6] at hs
  refine ⟨(hs.block _ (by omega)).trans ?_, (hs.block _ (by omega)).trans ?_, (hs.block _ (by omega)).trans ?_, h5.trans (since_mono hs (by omega)), by have := hs.size; rw [h6] at this; exact this⟩
  · show (((w.heap.push o1).push o2).push o3)[w.heap.size]? = _
    rw [Array.getElem?_push, if_neg (by first | (simp; done) | (simp; omega)), Array.getElem?_push, if_neg (by simp), Array.getElem?_push, if_pos rfl]
  · show (((w.heap.push o1).push o2).push o3)[w.heap.size + 1]? = _
    rw [Array.getElem?_push, if_neg (by simp), Array.getElem?_push, if_pos (by simp)]
  · exact third w _ _ _

/-- The world of toWire, behind the call of Weight. -/
structure TW (w W : World) (d : WD) (bx rb sb pb : Nat) (z : Int) : Prop where
  since : w.Since w.heap.size W
  lx : w.heap.size ≤ bx
  lr : w.heap.size ≤ rb
  ls : w.heap.size ≤ sb
  nxs : bx ≠ sb
  nrs : rb ≠ sb
  nps : pb ≠ sb
  npr : pb ≠ rb
  lt : pb < W.heap.size
  hx : W.heap[bx]? = some (.cells (sCells d.op d.key d.val d.dlt d.giv d.wgh) 104 (0, 0))
  hr : W.heap[rb]? = some (.cells #[.int .i64 0, .string ⟨#[]⟩, .string ⟨#[]⟩, .string ⟨#[]⟩, .slice none 0 0, .int .i64 0, .pointer none, .pointer none] 115 (0, 0))
  hs : W.heap[sb]? = some (.cells #[.int .i64 0, .string ⟨#[]⟩, .string ⟨#[]⟩, .string d.key, .slice none 0 0, .int .i64 0, .pointer none, .pointer none] 115 (0, 0))
  hp : BoxAt W pb z

theorem alloc_at (w : World) (o : Obj) : (w.alloc o).heap[w.heap.size]? = some o := by
  show (w.heap.push o)[w.heap.size]? = _
  rw [Array.getElem?_push, if_pos rfl]
theorem alloc_lt (w : World) (o : Obj) {k : Nat} (h : k < w.heap.size) : (w.alloc o).heap[k]? = w.heap[k]? := by
  show (w.heap.push o)[k]? = _
  rw [Array.getElem?_push, if_neg (by omega)]

theorem frozen_row (w : World) (b o : Nat) (cs : Array Value) (t : TypeId) (h : w.heap[b]? = some (.cells cs t (0, 0))) : w.frozen? ⟨b, o, none⟩ = false := by
  simp [World.frozen?, h]

theorem bw_since {B : Nat} {w w' : World} (h : w.Since B w') (hB : B ≤ w'.heap.size) (s : ByteArray) : w.Since B (bytesWorld w' 5 s) :=
  h.trans ⟨rfl, rfl, rfl, by rw [bytesWorld_size]; omega, fun k hk => bytesWorld_at_old w' 5 s k (by omega)⟩

theorem bw_bytes (w : World) (s : ByteArray) : BytesAt (bytesWorld w 5 s) w.heap.size s :=
  ⟨_, _, bytesWorld_at_new w 5 s, fun j hj => by simp [bytesCells, Array.getElem?_append, List.getD, hj]⟩

/-- The world of toWire: the variable sw, and the result's. -/
structure TB (w W : World) (d : WD) (rb sb : Nat) (o v dl p : Value) : Prop where
  since : w.Since w.heap.size W
  lr : w.heap.size ≤ rb
  ls : w.heap.size ≤ sb
  nrs : rb ≠ sb
  hr : W.heap[rb]? = some (.cells #[.int .i64 0, .string ⟨#[]⟩, .string ⟨#[]⟩, .string ⟨#[]⟩, .slice none 0 0, .int .i64 0, .pointer none, .pointer none] 115 (0, 0))
  hs : W.heap[sb]? = some (.cells #[.int .i64 0, .string ⟨#[]⟩, o, .string d.key, v, dl, p, .pointer none] 115 (0, 0))

theorem setCell_row {w : World} {b o : Nat} {v : Value} {c : Array Value} {t : TypeId} {m : Nat × Nat} (h : w.heap[b]? = some (.cells c t m)) : (w.setCell ⟨b, o, none⟩ v).heap[b]? = some (.cells (c.setIfInBounds o v) t m) := by
  simp [World.setCell, Array.getElem?_modify, h]

theorem TB.set2 {w W : World} {d : WD} {rb sb : Nat} {o v dl p : Value} (h : TB w W d rb sb o v dl p) (x : Value) : TB w (W.setCell ⟨sb, 2, none⟩ x) d rb sb x v dl p :=
  ⟨h.since.setCell h.ls _, h.lr, h.ls, h.nrs, (Below.heap_setCell W ⟨sb, 2, none⟩ x rb h.nrs).trans h.hr, (setCell_row h.hs).trans rfl⟩
theorem TB.set4 {w W : World} {d : WD} {rb sb : Nat} {o v dl p : Value} (h : TB w W d rb sb o v dl p) (x : Value) : TB w (W.setCell ⟨sb, 4, none⟩ x) d rb sb o x dl p :=
  ⟨h.since.setCell h.ls _, h.lr, h.ls, h.nrs, (Below.heap_setCell W ⟨sb, 4, none⟩ x rb h.nrs).trans h.hr, (setCell_row h.hs).trans rfl⟩
theorem TB.set5 {w W : World} {d : WD} {rb sb : Nat} {o v dl p : Value} (h : TB w W d rb sb o v dl p) (x : Value) : TB w (W.setCell ⟨sb, 5, none⟩ x) d rb sb o v x p :=
  ⟨h.since.setCell h.ls _, h.lr, h.ls, h.nrs, (Below.heap_setCell W ⟨sb, 5, none⟩ x rb h.nrs).trans h.hr, (setCell_row h.hs).trans rfl⟩
theorem TB.set6 {w W : World} {d : WD} {rb sb : Nat} {o v dl p : Value} (h : TB w W d rb sb o v dl p) (x : Value) : TB w (W.setCell ⟨sb, 6, none⟩ x) d rb sb o v dl x :=
  ⟨h.since.setCell h.ls _, h.lr, h.ls, h.nrs, (Below.heap_setCell W ⟨sb, 6, none⟩ x rb h.nrs).trans h.hr, (setCell_row h.hs).trans rfl⟩
theorem TB.drew {w W : World} {d : WD} {rb sb : Nat} {o v dl p : Value} (h : TB w W d rb sb o v dl p) : TB w W.drew d rb sb o v dl p := ⟨h.since.drew, h.lr, h.ls, h.nrs, h.hr, h.hs⟩
theorem TB.bw {w W : World} {d : WD} {rb sb : Nat} {o v dl p : Value} (h : TB w W d rb sb o v dl p) (s : ByteArray) : TB w (bytesWorld W 5 s) d rb sb o v dl p :=
  ⟨bw_since h.since h.since.size s, h.lr, h.ls, h.nrs, (bytesWorld_at_old W 5 s rb (heap_lt h.hr)).trans h.hr, (bytesWorld_at_old W 5 s sb (heap_lt h.hs)).trans h.hs⟩
theorem TB.ne5 {w W : World} {d : WD} {rb sb : Nat} {o v dl p : Value} (h : TB w W d rb sb o v dl p) {b : Nat} {s : ByteArray} (hb : BytesAt W b s) : b ≠ sb ∧ b ≠ rb := by
  obtain ⟨C, m, h1, _⟩ := hb
  refine ⟨?_, ?_⟩
  · rintro rfl; have := h.hs; rw [h1] at this; cases this
  · rintro rfl; have := h.hr; rw [h1] at this; cases this
theorem TB.ne2 {w W : World} {d : WD} {rb sb : Nat} {o v dl p : Value} (h : TB w W d rb sb o v dl p) {b : Nat} {z : Int} (hb : BoxAt W b z) : b ≠ sb ∧ b ≠ rb := by
  obtain ⟨m, h1⟩ := hb
  refine ⟨?_, ?_⟩
  · rintro rfl; have := h.hs; rw [h1] at this; cases this
  · rintro rfl; have := h.hr; rw [h1] at this; cases this
theorem TB.bytes {w W : World} {d : WD} {rb sb : Nat} {o v dl p : Value} (h : TB w W d rb sb o v dl p) {b : Nat} {s : ByteArray} (hb : BytesAt W b s) (k : Nat) (x : Value) : BytesAt (W.setCell ⟨sb, k, none⟩ x) b s :=
  hb.of_block (Below.heap_setCell W ⟨sb, k, none⟩ x b (h.ne5 hb).1)
theorem TB.box {w W : World} {d : WD} {rb sb : Nat} {o v dl p : Value} (h : TB w W d rb sb o v dl p) {b : Nat} {z : Int} (hb : BoxAt W b z) (k : Nat) (x : Value) : BoxAt (W.setCell ⟨sb, k, none⟩ x) b z :=
  hb.of_block (Below.heap_setCell W ⟨sb, k, none⟩ x b (h.ne2 hb).1)

/-- Behind the switch: what is laid, and that it is what the wire wants. -/
structure TE (w W : World) (d : WD) (rb sb : Nat) (o v dl p : Value) : Prop where
  tb : TB w W d rb sb o v dl p
  out : WOut W d o v dl p
  one : (#[.int .i64 0, .string ⟨#[]⟩, o, .string d.key, v, dl, p, .pointer none] : Array Value).all (·.oneCell') = true

theorem TW.tb {w W : World} {d : WD} {bx rb sb pb : Nat} {z : Int} (h : TW w W d bx rb sb pb z) : TB w W d rb sb (.string ⟨#[]⟩) (.slice none 0 0) (.int .i64 0) (.pointer none) := ⟨h.since, h.lr, h.ls, h.nrs, h.hr, h.hs⟩

theorem te_putA {w W : World} {d : WD} {bx rb sb pb : Nat} {z : Int} (T : TW w W d bx rb sb pb z) (hz : z = d.weight) (h1 : d.op = 1) (c : Nat) :
    TE w ((((bytesWorld W.drew 5 d.val).setCell ⟨sb, 2, none⟩ (.string ⟨#[112, 117, 116]⟩)).setCell ⟨sb, 4, none⟩ (.slice (some ⟨W.heap.size, 0, none⟩) d.val.size c)).setCell ⟨sb, 6, none⟩ (.pointer (some ⟨pb, 0, none⟩))) d rb sb (.string ⟨#[112, 117, 116]⟩) (.slice (some ⟨W.heap.size, 0, none⟩) d.val.size c) (.int .i64 0) (.pointer (some ⟨pb, 0, none⟩)) := by
  have t1 := T.tb.drew.bw d.val
  have b1 : BytesAt (bytesWorld W.drew 5 d.val) W.heap.size d.val := bw_bytes W.drew d.val
  have x1 : BoxAt (bytesWorld W.drew 5 d.val) pb z := T.hp.of_block (bytesWorld_at_old W.drew 5 d.val pb T.hp.lt)
  have t2 := t1.set2 (.string ⟨#[112, 117, 116]⟩)
  have t3 := t2.set4 (.slice (some ⟨W.heap.size, 0, none⟩) d.val.size c)
  have b2 := t1.bytes b1 2 (.string ⟨#[112, 117, 116]⟩)
  have b3 := t2.bytes b2 4 (.slice (some ⟨W.heap.size, 0, none⟩) d.val.size c)
  have x2 := t1.box x1 2 (.string ⟨#[112, 117, 116]⟩)
  have x3 := t2.box x2 4 (.slice (some ⟨W.heap.size, 0, none⟩) d.val.size c)
  subst hz
  exact ⟨t3.set6 _, Or.inl ⟨h1, rfl, ⟨_, _, rfl, t3.bytes b3 _ _⟩, rfl, _, rfl, t3.box x3 _ _⟩, by simp [Value.oneCell']⟩

theorem te_putB {w W : World} {d : WD} {bx rb sb pb : Nat} {z : Int} (T : TW w W d bx rb sb pb z) (hz : z = d.weight) (h1 : d.op = 1) (c : Nat) :
    TE w (((bytesWorld (W.setCell ⟨sb, 2, none⟩ (.string ⟨#[112, 117, 116]⟩)).drew 5 d.val).setCell ⟨sb, 4, none⟩ (.slice (some ⟨W.heap.size, 0, none⟩) d.val.size c)).setCell ⟨sb, 6, none⟩ (.pointer (some ⟨pb, 0, none⟩))) d rb sb (.string ⟨#[112, 117, 116]⟩) (.slice (some ⟨W.heap.size, 0, none⟩) d.val.size c) (.int .i64 0) (.pointer (some ⟨pb, 0, none⟩)) := by
  have t0 := T.tb.set2 (.string ⟨#[112, 117, 116]⟩)
  have t2 := t0.drew.bw d.val
  have b2 : BytesAt (bytesWorld (W.setCell ⟨sb, 2, none⟩ (.string ⟨#[112, 117, 116]⟩)).drew 5 d.val) W.heap.size d.val := by
    have := bw_bytes (W.setCell ⟨sb, 2, none⟩ (.string ⟨#[112, 117, 116]⟩)).drew d.val
    rwa [show (W.setCell ⟨sb, 2, none⟩ (.string ⟨#[112, 117, 116]⟩)).drew.heap.size = W.heap.size by simp [World.setCell]] at this
  have x1 : BoxAt (W.setCell ⟨sb, 2, none⟩ (.string ⟨#[112, 117, 116]⟩)).drew pb z := T.tb.box T.hp _ _
  have x2 : BoxAt (bytesWorld (W.setCell ⟨sb, 2, none⟩ (.string ⟨#[112, 117, 116]⟩)).drew 5 d.val) pb z := x1.of_block (bytesWorld_at_old _ 5 d.val pb x1.lt)
  have t3 := t2.set4 (.slice (some ⟨W.heap.size, 0, none⟩) d.val.size c)
  have b3 := t2.bytes b2 4 (.slice (some ⟨W.heap.size, 0, none⟩) d.val.size c)
  have x3 := t2.box x2 4 (.slice (some ⟨W.heap.size, 0, none⟩) d.val.size c)
  subst hz
  exact ⟨t3.set6 _, Or.inl ⟨h1, rfl, ⟨_, _, rfl, t3.bytes b3 _ _⟩, rfl, _, rfl, t3.box x3 _ _⟩, by simp [Value.oneCell']⟩

theorem te_add {w W : World} {d : WD} {bx rb sb pb : Nat} {z : Int} (T : TW w W d bx rb sb pb z) (h1 : d.op = 2) :
    TE w ((W.setCell ⟨sb, 2, none⟩ (.string ⟨#[97, 100, 100]⟩)).setCell ⟨sb, 5, none⟩ (.int .i64 d.dlt)).drew d rb sb (.string ⟨#[97, 100, 100]⟩) (.slice none 0 0) (.int .i64 d.dlt) (.pointer none) :=
  ⟨((T.tb.set2 _).set5 _).drew, Or.inr (Or.inl ⟨h1, rfl, rfl, rfl, rfl⟩), by simp [Value.oneCell']⟩

theorem TB.alloc {w W : World} {d : WD} {rb sb : Nat} {o v dl p : Value} (h : TB w W d rb sb o v dl p) (x : Obj) : TB w (W.alloc x) d rb sb o v dl p :=
  ⟨h.since.alloc h.since.size _, h.lr, h.ls, h.nrs, (alloc_lt _ _ (heap_lt h.hr)).trans h.hr, (alloc_lt _ _ (heap_lt h.hs)).trans h.hs⟩

theorem te_del {w w1 : World} {d : WD} {rb sb : Nat} {z : Int} (T : TB w w1 d rb sb (.string ⟨#[]⟩) (.slice none 0 0) (.int .i64 0) (.pointer none)) (hz : z = d.weight) (h1 : d.op = 4) :
    TE w (((w1.setCell ⟨sb, 2, none⟩ (.string ⟨#[100, 101, 108, 101, 116, 101]⟩)).setCell ⟨sb, 6, none⟩ (.pointer (some ⟨w1.heap.size, 0, none⟩))).alloc (.cells #[.int .i64 z] 2)) d rb sb (.string ⟨#[100, 101, 108, 101, 116, 101]⟩) (.slice none 0 0) (.int .i64 0) (.pointer (some ⟨w1.heap.size, 0, none⟩)) := by
  have t1 := T.set2 (.string ⟨#[100, 101, 108, 101, 116, 101]⟩)
  have x1 := alloc_at ((w1.setCell ⟨sb, 2, none⟩ (.string ⟨#[100, 101, 108, 101, 116, 101]⟩)).setCell ⟨sb, 6, none⟩ (.pointer (some ⟨w1.heap.size, 0, none⟩))) (.cells #[.int .i64 z] 2)
  rw [show ((w1.setCell ⟨sb, 2, none⟩ (.string ⟨#[100, 101, 108, 101, 116, 101]⟩)).setCell ⟨sb, 6, none⟩ (.pointer (some ⟨w1.heap.size, 0, none⟩))).heap.size = w1.heap.size by simp [World.setCell]] at x1
  subst hz
  exact ⟨(t1.set6 _).alloc _, Or.inr (Or.inr (Or.inl ⟨h1, rfl, rfl, rfl, _, rfl, _, x1⟩)), by simp [Value.oneCell']⟩

theorem te_other {w W : World} {d : WD} {bx rb sb pb : Nat} {z : Int} (T : TW w W d bx rb sb pb z) (h1 : d.op ≠ 1) (h2 : d.op ≠ 2) (h4 : d.op ≠ 4) :
    TE w W d rb sb (.string ⟨#[]⟩) (.slice none 0 0) (.int .i64 0) (.pointer none) :=
  ⟨T.tb, Or.inr (Or.inr (Or.inr ⟨h1, h2, h4, rfl, rfl, rfl, rfl⟩)), by simp [Value.oneCell']⟩

theorem size115 (a b c d e f g h : Value) : (Try.prog.info? 115).map (·.size) = some (#[a, b, c, d, e, f, g, h] : Array Value).size := by
  show _ = some 8
  kernel_rfl

def ToWirePost (d : WD) (w : World) (e : Ending) (w' : World) : Prop := ∃ o v dl p, e = .returned (.agg #[.int .i64 0, .string ⟨#[]⟩, o, .string d.key, v, dl, p, .pointer none]) ∧ WOut w' d o v dl p ∧ w.Since w.heap.size w'

/-- The same, the eight cells one letter. -/
structure TU (w W : World) (d : WD) (rb sb : Nat) (U : Array Value) : Prop where
  hs : W.heap[sb]? = some (.cells U 115 (0, 0))
  hr : W.heap[rb]? = some (.cells #[.int .i64 0, .string ⟨#[]⟩, .string ⟨#[]⟩, .string ⟨#[]⟩, .slice none 0 0, .int .i64 0, .pointer none, .pointer none] 115 (0, 0))
  one : U.all (·.oneCell') = true
  size : (Try.prog.info? 115).map (·.size) = some U.size
  len : U.size = 8
  fin : ToWirePost d w (.returned (.agg U)) (W.setRow rb U)

theorem TE.tu {w W : World} {d : WD} {rb sb : Nat} {o v dl p : Value} (h : TE w W d rb sb o v dl p) : ∃ U, TU w W d rb sb U :=
  ⟨_, h.tb.hs, h.tb.hr, h.one, size115 _ _ _ _ _ _ _ _, rfl, o, v, dl, p, rfl,
    h.out.mono (fun hb => hb.of_block (setRow_other _ _ _ _ (h.tb.ne5 hb).2)) (fun hb => hb.of_block (setRow_other _ _ _ _ (h.tb.ne2 hb).2)), since_setRow h.tb.since h.tb.lr _⟩

set_option maxRecDepth 100000 in
set_option maxHeartbeats 4000000 in
theorem to_wire (d : WD) (w : World) (h3 : d.op ≠ 3) :
    Calls Try.prog 38 #[.agg d.sc] w (ToWirePost d w) := by
  unfold WD.sc sCells
  go_enter Try.func38, Try.ntmps38
  go_wp2_with fail
  refine (weight_is d.op d.key d.val d.dlt d.giv d.wgh _).mono ?_
  rintro e w1 ⟨z, rfl, hz, hs⟩
  obtain ⟨h0, h1, h2, hB, hsz⟩ := after3 hs
  rw [WD.weight_eq] at hz
  have HZ : Hid (d.op ≠ 2 → d.op ≠ 3 → z = d.weight) := hz
  have hT : TW w (w1.alloc (.cells #[.int .i64 z] 2)) d w.heap.size (w.heap.size + 1) (w.heap.size + 1 + 1) w1.heap.size z :=
    ⟨hB.alloc hB.size _, Nat.le_refl _, by omega, by omega, by omega, by omega, by omega, by omega, by simp, (alloc_lt _ _ (by omega)).trans h0, (alloc_lt _ _ (by omega)).trans h1, (alloc_lt _ _ (by omega)).trans h2, ⟨_, alloc_at _ _⟩⟩
  have HT : Hid (TW w (w1.alloc (.cells #[.int .i64 z] 2)) d w.heap.size (w.heap.size + 1) (w.heap.size + 1 + 1) w1.heap.size z) := hT
  have k2 : w1.cell? ⟨w.heap.size, 2, none⟩ = some (.int .u8 d.op) := (cell_of_row _ _ 2 _ _ _ h0).trans rfl
  have hlt0 : w.heap.size < w1.heap.size := by omega
  have TB0 : Hid (TB w w1 d (w.heap.size + 1) (w.heap.size + 1 + 1) (.string ⟨#[]⟩) (.slice none 0 0) (.int .i64 0) (.pointer none)) := ⟨hB, by omega, by omega, by omega, h1, h2⟩
  have S2 : Hid (w1.cell? ⟨w.heap.size + 1 + 1, 2, none⟩ = some (.string ⟨#[]⟩)) := (cell_of_row _ _ 2 _ _ _ h2).trans rfl
  have S6 : Hid (w1.cell? ⟨w.heap.size + 1 + 1, 6, none⟩ = some (.pointer none)) := (cell_of_row _ _ 6 _ _ _ h2).trans rfl
  have F2 : Hid (w1.frozen? ⟨w.heap.size + 1 + 1, 2, none⟩ = false) := frozen_row _ _ _ _ _ h2
  have F6 : Hid (w1.frozen? ⟨w.heap.size + 1 + 1, 6, none⟩ = false) := frozen_row _ _ _ _ _ h2
  have L2 : Hid (w.heap.size + 1 + 1 < w1.heap.size) := by unfold Hid; omega
  clear h0 h1 h2 hz hs hB hT hsz
  by_cases q1 : d.op = 1
  · have e1 : (d.op == 1) = true := by simp [q1]
    have Q1 : Hid (d.op = 1) := q1
    clear q1
    go_wp2_with fail
    clear k2 hlt0
    generalize (w1.alloc (.cells #[.int .i64 z] 2)) = W at HT ⊢
    generalize w1.heap.size = pb at HT ⊢
    have HE : ∃ bx rb sb, bx = w.heap.size ∧ rb = w.heap.size + 1 ∧ sb = w.heap.size + 1 + 1 := ⟨_, _, _, rfl, rfl, rfl⟩
    obtain ⟨bx, rb, sb, E1, E2, E3⟩ := HE
    rw [← E3, ← E2, ← E1] at HT ⊢
    have T := HT.out
    clear HT E1 E2 E3
    have HT : Hid (TW w W d bx rb sb pb z) := T
    have k4 : W.cell? ⟨bx, 4, none⟩ = some (.string d.val) := (cell_of_row _ _ 4 _ _ _ T.hx).trans rfl
    have s2 : W.cell? ⟨sb, 2, none⟩ = some (.string ⟨#[]⟩) := (cell_of_row _ _ 2 _ _ _ T.hs).trans rfl
    have f2 : W.frozen? ⟨sb, 2, none⟩ = false := frozen_row _ _ _ _ _ T.hs
    have hcv := fun w s => Lib.run_convert_string_bytes (P := Try.prog) w 9 59 5 s Try.underlying9 Try.underlying59 Try.underlying5
    have xs := T.nxs
    have ls := T.ls
    have b1 := (bytesWorld_at_old W.drew 5 d.val sb (heap_lt T.hs)).trans T.hs
    have b2 := (bytesWorld_at_old (W.setCell ⟨sb, 2, none⟩ (.string ⟨#[112, 117, 116]⟩)).drew 5 d.val sb (by simp [World.setCell]; exact heap_lt T.hs))
    have p2 : (bytesWorld W.drew 5 d.val).cell? ⟨sb, 2, none⟩ = some (.string ⟨#[]⟩) := (cell_of_row _ _ 2 _ _ _ b1).trans rfl
    have p4 : (bytesWorld W.drew 5 d.val).cell? ⟨sb, 4, none⟩ = some (.slice none 0 0) := (cell_of_row _ _ 4 _ _ _ b1).trans rfl
    have p6 : (bytesWorld W.drew 5 d.val).cell? ⟨sb, 6, none⟩ = some (.pointer none) := (cell_of_row _ _ 6 _ _ _ b1).trans rfl
    have pf2 : (bytesWorld W.drew 5 d.val).frozen? ⟨sb, 2, none⟩ = false := frozen_row _ _ _ _ _ b1
    have pf4 : (bytesWorld W.drew 5 d.val).frozen? ⟨sb, 4, none⟩ = false := frozen_row _ _ _ _ _ b1
    have pf6 : (bytesWorld W.drew 5 d.val).frozen? ⟨sb, 6, none⟩ = false := frozen_row _ _ _ _ _ b1
    have r4 : (bytesWorld (W.setCell ⟨sb, 2, none⟩ (.string ⟨#[112, 117, 116]⟩)).drew 5 d.val).cell? ⟨sb, 4, none⟩ = some (.slice none 0 0) := by
      rw [World.cell?_of_block b2]
      show (W.setCell _ _).cell? _ = _
      rw [World.cell?_setCell_other _ _ _ _ (by simp)]
      exact (cell_of_row _ _ 4 _ _ _ T.hs).trans rfl
    have r6 : (bytesWorld (W.setCell ⟨sb, 2, none⟩ (.string ⟨#[112, 117, 116]⟩)).drew 5 d.val).cell? ⟨sb, 6, none⟩ = some (.pointer none) := by
      rw [World.cell?_of_block b2]
      show (W.setCell _ _).cell? _ = _
      rw [World.cell?_setCell_other _ _ _ _ (by simp)]
      exact (cell_of_row _ _ 6 _ _ _ T.hs).trans rfl
    have rf4 : (bytesWorld (W.setCell ⟨sb, 2, none⟩ (.string ⟨#[112, 117, 116]⟩)).drew 5 d.val).frozen? ⟨sb, 4, none⟩ = false := by
      rw [World.frozen?_of_block b2]
      show (W.setCell _ _).frozen? _ = _
      rw [World.frozen?_setCell]
      exact frozen_row _ _ _ _ _ T.hs
    have rf6 : (bytesWorld (W.setCell ⟨sb, 2, none⟩ (.string ⟨#[112, 117, 116]⟩)).drew 5 d.val).frozen? ⟨sb, 6, none⟩ = false := by
      rw [World.frozen?_of_block b2]
      show (W.setCell _ _).frozen? _ = _
      rw [World.frozen?_setCell]
      exact frozen_row _ _ _ _ _ T.hs
    clear b1 b2 T
    have hz := HZ.out (by rw [Q1.out]; decide) h3
    have TA : Hid (∀ c, TE w ((((bytesWorld W.drew 5 d.val).setCell ⟨sb, 2, none⟩ (.string ⟨#[112, 117, 116]⟩)).setCell ⟨sb, 4, none⟩ (.slice (some ⟨W.heap.size, 0, none⟩) d.val.size c)).setCell ⟨sb, 6, none⟩ (.pointer (some ⟨pb, 0, none⟩))) d rb sb (.string ⟨#[112, 117, 116]⟩) (.slice (some ⟨W.heap.size, 0, none⟩) d.val.size c) (.int .i64 0) (.pointer (some ⟨pb, 0, none⟩))) := te_putA HT.out hz Q1.out
    have TB' : Hid (∀ c, TE w (((bytesWorld (W.setCell ⟨sb, 2, none⟩ (.string ⟨#[112, 117, 116]⟩)).drew 5 d.val).setCell ⟨sb, 4, none⟩ (.slice (some ⟨W.heap.size, 0, none⟩) d.val.size c)).setCell ⟨sb, 6, none⟩ (.pointer (some ⟨pb, 0, none⟩))) d rb sb (.string ⟨#[112, 117, 116]⟩) (.slice (some ⟨W.heap.size, 0, none⟩) d.val.size c) (.int .i64 0) (.pointer (some ⟨pb, 0, none⟩))) := te_putB HT.out hz Q1.out
    clear hz
    go_region
    all_goals
      clear hcv k4 s2 f2 xs ls p2 p4 p6 pf2 pf4 pf6 r4 r6 rf4 rf6
      first
        | (obtain ⟨U, hU⟩ := (TA.out (grownCap W.drew d.val.size 0 5)).tu
           generalize ((((bytesWorld W.drew 5 d.val).setCell ⟨sb, 2, none⟩ (.string ⟨#[112, 117, 116]⟩)).setCell ⟨sb, 4, none⟩ (.slice (some ⟨W.heap.size, 0, none⟩) d.val.size (grownCap W.drew d.val.size 0 5))).setCell ⟨sb, 6, none⟩ (.pointer (some ⟨pb, 0, none⟩))) = W' at hU ⊢
           show Exit.inBlock _ _ Exit.normal _ W')
        | (obtain ⟨U, hU⟩ := (TB'.out (grownCap (W.setCell ⟨sb, 2, none⟩ (.string ⟨#[112, 117, 116]⟩)).drew d.val.size 0 5)).tu
           generalize (((bytesWorld (W.setCell ⟨sb, 2, none⟩ (.string ⟨#[112, 117, 116]⟩)).drew 5 d.val).setCell ⟨sb, 4, none⟩ (.slice (some ⟨W.heap.size, 0, none⟩) d.val.size (grownCap (W.setCell ⟨sb, 2, none⟩ (.string ⟨#[112, 117, 116]⟩)).drew d.val.size 0 5))).setCell ⟨sb, 6, none⟩ (.pointer (some ⟨pb, 0, none⟩))) = W' at hU ⊢
           show Exit.inBlock _ _ Exit.normal _ W')
      clear TA TB'
      have HU : Hid (TU w W' d rb sb U) := hU
      clear hU
      go_wp2_with (first
        | (refine wpList_load_row rfl 115 _ rfl sb rfl 115 U (0, 0) _ HU.out.hs Try.underlying115 rfl HU.out.size ?_)
        | (refine wpList_store_row rfl 115 _ _ rfl rb U rfl rfl 115 _ HU.out.hr HU.out.size (by rw [HU.out.len]; rfl) HU.out.one ?_))
      have hl : (loadVar 115 ⟨rb, 0, none⟩).run Try.prog (W'.setRow rb U) = .ok (.agg U) _ := run_loadVar_row _ _ 115 115 U (0, 0) _ (setRow_heap _ _ _ _ 115 (0, 0) HU.out.hr) Try.underlying115 rfl HU.out.size
      exact bodyPost_ret (v := .agg U) (results_cell Try.results38 rfl hl) rfl HU.out.fin
  by_cases q2 : d.op = 2
  · have e1 : (d.op == 1) = false := by simp [q2]
    have e2 : (d.op == 2) = true := by simp [q2]
    have Q2 : Hid (d.op = 2) := q2
    clear q2 q1
    go_wp2_with fail
    clear k2 hlt0
    generalize (w1.alloc (.cells #[.int .i64 z] 2)) = W at HT ⊢
    generalize w1.heap.size = pb at HT ⊢
    have HE : ∃ bx rb sb, bx = w.heap.size ∧ rb = w.heap.size + 1 ∧ sb = w.heap.size + 1 + 1 := ⟨_, _, _, rfl, rfl, rfl⟩
    obtain ⟨bx, rb, sb, E1, E2, E3⟩ := HE
    rw [← E3, ← E2, ← E1] at HT ⊢
    have T := HT.out
    clear HT E1 E2 E3
    have HT : Hid (TW w W d bx rb sb pb z) := T
    have k5 : W.cell? ⟨bx, 5, none⟩ = some (.int .i64 d.dlt) := (cell_of_row _ _ 5 _ _ _ T.hx).trans rfl
    have s2 : W.cell? ⟨sb, 2, none⟩ = some (.string ⟨#[]⟩) := (cell_of_row _ _ 2 _ _ _ T.hs).trans rfl
    have s5 : W.cell? ⟨sb, 5, none⟩ = some (.int .i64 0) := (cell_of_row _ _ 5 _ _ _ T.hs).trans rfl
    have f2 : W.frozen? ⟨sb, 2, none⟩ = false := frozen_row _ _ _ _ _ T.hs
    have f5 : W.frozen? ⟨sb, 5, none⟩ = false := frozen_row _ _ _ _ _ T.hs
    have xs := T.nxs
    clear T
    go_region
    all_goals
      clear k5 s2 s5 f2 f5 xs
      obtain ⟨U, hU⟩ := (te_add HT.out Q2.out).tu
      generalize ((W.setCell ⟨sb, 2, none⟩ (.string ⟨#[97, 100, 100]⟩)).setCell ⟨sb, 5, none⟩ (.int .i64 d.dlt)).drew = W' at hU ⊢
      show Exit.inBlock _ _ Exit.normal _ W'
      have HU : Hid (TU w W' d rb sb U) := hU
      clear hU
      go_wp2_with (first
        | (refine wpList_load_row rfl 115 _ rfl sb rfl 115 U (0, 0) _ HU.out.hs Try.underlying115 rfl HU.out.size ?_)
        | (refine wpList_store_row rfl 115 _ _ rfl rb U rfl rfl 115 _ HU.out.hr HU.out.size (by rw [HU.out.len]; rfl) HU.out.one ?_))
      have hl : (loadVar 115 ⟨rb, 0, none⟩).run Try.prog (W'.setRow rb U) = .ok (.agg U) _ := run_loadVar_row _ _ 115 115 U (0, 0) _ (setRow_heap _ _ _ _ 115 (0, 0) HU.out.hr) Try.underlying115 rfl HU.out.size
      exact bodyPost_ret (v := .agg U) (results_cell Try.results38 rfl hl) rfl HU.out.fin
  by_cases q4 : d.op = 4
  · have e1 : (d.op == 1) = false := by simp [q4]
    have e2 : (d.op == 2) = false := by simp [q4]
    have e4 : (d.op == 4) = true := by simp [q4]
    have Q4 : Hid (d.op = 4) := q4
    have s2 : w1.cell? ⟨w.heap.size + 1 + 1, 2, none⟩ = some (.string ⟨#[]⟩) := S2.out
    have s6 : w1.cell? ⟨w.heap.size + 1 + 1, 6, none⟩ = some (.pointer none) := S6.out
    have f2 : w1.frozen? ⟨w.heap.size + 1 + 1, 2, none⟩ = false := F2.out
    have f6 : w1.frozen? ⟨w.heap.size + 1 + 1, 6, none⟩ = false := F6.out
    have hlt2 := L2.out
    have hz := HZ.out (by rw [q4]; decide) h3
    clear q2 q1 q4
    obtain ⟨U, hU⟩ := (te_del TB0.out hz Q4.out).tu
    clear hz
    have HU : Hid (TU w (((w1.setCell ⟨w.heap.size + 1 + 1, 2, none⟩ (.string ⟨#[100, 101, 108, 101, 116, 101]⟩)).setCell ⟨w.heap.size + 1 + 1, 6, none⟩ (.pointer (some ⟨w1.heap.size, 0, none⟩))).alloc (.cells #[.int .i64 z] 2)) d (w.heap.size + 1) (w.heap.size + 1 + 1) U) := hU
    clear hU
    go_wp2_with (first
      | (refine wpList_load_row rfl 115 _ rfl (w.heap.size + 1 + 1) rfl 115 U (0, 0) _ HU.out.hs Try.underlying115 rfl HU.out.size ?_)
      | (refine wpList_store_row rfl 115 _ _ rfl (w.heap.size + 1) U rfl rfl 115 _ HU.out.hr HU.out.size (by rw [HU.out.len]; rfl) HU.out.one ?_))
    have hl : (loadVar 115 ⟨w.heap.size + 1, 0, none⟩).run Try.prog ((((w1.setCell ⟨w.heap.size + 1 + 1, 2, none⟩ (.string ⟨#[100, 101, 108, 101, 116, 101]⟩)).setCell ⟨w.heap.size + 1 + 1, 6, none⟩ (.pointer (some ⟨w1.heap.size, 0, none⟩))).alloc (.cells #[.int .i64 z] 2)).setRow (w.heap.size + 1) U) = .ok (.agg U) _ := run_loadVar_row _ _ 115 115 U (0, 0) _ (setRow_heap _ _ _ _ 115 (0, 0) HU.out.hr) Try.underlying115 rfl HU.out.size
    exact bodyPost_ret (v := .agg U) (results_cell Try.results38 rfl hl) rfl HU.out.fin
  have e1 : (d.op == 1) = false := by simp [q1]
  have e2 : (d.op == 2) = false := by simp [q2]
  have e4 : (d.op == 4) = false := by simp [q4]
  have e3 : (d.op == 3) = false := by simp [h3]
  obtain ⟨U, hU⟩ := (te_other HT.out q1 q2 q4).tu
  clear q1 q2 q4 h3
  have HU : Hid (TU w (w1.alloc (.cells #[.int .i64 z] 2)) d (w.heap.size + 1) (w.heap.size + 1 + 1) U) := hU
  clear hU
  go_wp2_with (first
    | (refine wpList_load_row rfl 115 _ rfl (w.heap.size + 1 + 1) rfl 115 U (0, 0) _ HU.out.hs Try.underlying115 rfl HU.out.size ?_)
    | (refine wpList_store_row rfl 115 _ _ rfl (w.heap.size + 1) U rfl rfl 115 _ HU.out.hr HU.out.size (by rw [HU.out.len]; rfl) HU.out.one ?_))
  have hl : (loadVar 115 ⟨w.heap.size + 1, 0, none⟩).run Try.prog ((w1.alloc (.cells #[.int .i64 z] 2)).setRow (w.heap.size + 1) U) = .ok (.agg U) _ := run_loadVar_row _ _ 115 115 U (0, 0) _ (setRow_heap _ _ _ _ 115 (0, 0) HU.out.hr) Try.underlying115 rfl HU.out.size
  exact bodyPost_ret (v := .agg U) (results_cell Try.results38 rfl hl) rfl HU.out.fin
end Go.Proofs.Qxb6618655a
