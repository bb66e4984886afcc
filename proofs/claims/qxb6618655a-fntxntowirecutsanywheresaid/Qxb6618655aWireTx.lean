/-
  leeway, the wire: what txnToWire (29) builds.
-/
import Derived.Test.Qxb6618655aWireTo
namespace Go.Proofs.Qxb6618655a
open Go.RowKit Go.Lib
set_option linter.unusedVariables false

theorem info54 : (Try.prog.info? 54).map (fun i => (i.zero.isSome, i.size, decide (i.bytes ≤ 1000))) = some (true, 3, true) := by kernel_rfl
theorem info62 : (Try.prog.info? 62).map (fun i => (i.zero.isSome, i.size, decide (i.bytes ≤ 1000))) = some (true, 5, true) := by kernel_rfl

/-- A transaction on the wire in memory: its two rows and its box. -/
structure WireTx (w : World) (B : Nat) (wr : World) (b1 b2 bt G M : Nat) (F1 F2 : Nat → Value) : Prop where
  since : w.Since B wr
  l1 : B ≤ b1
  l2 : B ≤ b2
  lt : B ≤ bt
  n12 : b1 ≠ b2
  n1t : b1 ≠ bt
  n2t : b2 ≠ bt
  row1 : wr.rowIs b1 54 (G * 3) F1
  row2 : wr.rowIs b2 62 (M * 5) F2
  c0 : wr.cell? ⟨bt, 0, none⟩ = some (.slice (some ⟨b1, 0, none⟩) G G)
  c1 : wr.cell? ⟨bt, 1, none⟩ = some (.slice (some ⟨b2, 0, none⟩) M M)

theorem wtx12 (w : World) (G M : Nat) (C1 C2 : Array Value) (h1 : C1.size = G * 3) (h2 : C2.size = M * 5) :
    WireTx w w.heap.size (((w.alloc (.cells C1 54)).alloc (.cells C2 62)).alloc (.cells #[.slice (some ⟨w.heap.size, 0, none⟩) G G, .slice (some ⟨w.heap.size + 1, 0, none⟩) M M] 51)).drew w.heap.size (w.heap.size + 1) (w.heap.size + 1 + 1) G M (fun i => (C1[i]?).getD undef) (fun i => (C2[i]?).getD undef) := by
  refine ⟨(((alloc2 w _ _).alloc (by simp; omega) _)).drew, Nat.le_refl _, by omega, by omega, by omega, by omega, by omega, ?_, ?_, (cell_of_row _ _ 0 _ _ _ (third w _ _ _)).trans rfl, (cell_of_row _ _ 1 _ _ _ (third w _ _ _)).trans rfl⟩
  · rw [← h1]
    exact ((World.rowIs_alloc w C1 54 _ (fun i hi => by simp [hi])).alloc _).alloc _
  · have := (World.rowIs_alloc (w.alloc (.cells C1 54)) C2 62 (fun i => (C2[i]?).getD undef) (fun i hi => by simp [hi])).alloc (.cells #[.slice (some ⟨w.heap.size, 0, none⟩) G G, .slice (some ⟨w.heap.size + 1, 0, none⟩) M M] 51)
    rw [h2, size_alloc] at this
    exact this
theorem wtx21 (w : World) (G M : Nat) (C1 C2 : Array Value) (h1 : C1.size = G * 3) (h2 : C2.size = M * 5) :
    WireTx w w.heap.size (((w.alloc (.cells C2 62)).alloc (.cells C1 54)).alloc (.cells #[.slice (some ⟨w.heap.size + 1, 0, none⟩) G G, .slice (some ⟨w.heap.size, 0, none⟩) M M] 51)).drew (w.heap.size + 1) w.heap.size (w.heap.size + 1 + 1) G M (fun i => (C1[i]?).getD undef) (fun i => (C2[i]?).getD undef) := by
  refine ⟨(((alloc2 w _ _).alloc (by simp; omega) _)).drew, by omega, Nat.le_refl _, by omega, by omega, by omega, by omega, ?_, ?_, (cell_of_row _ _ 0 _ _ _ (third w _ _ _)).trans rfl, (cell_of_row _ _ 1 _ _ _ (third w _ _ _)).trans rfl⟩
  · have := (World.rowIs_alloc (w.alloc (.cells C2 62)) C1 54 (fun i => (C1[i]?).getD undef) (fun i hi => by simp [hi])).alloc (.cells #[.slice (some ⟨w.heap.size + 1, 0, none⟩) G G, .slice (some ⟨w.heap.size, 0, none⟩) M M] 51)
    rw [h1, size_alloc] at this
    exact this
  · rw [← h2]
    exact ((World.rowIs_alloc w C2 62 _ (fun i hi => by simp [hi])).alloc _).alloc _

def RdOut (w : World) (F1 : Nat → Value) (D : Nat → RD) (k : Nat) : Prop := ∀ j, j < k → F1 (j * 3) = .string (D j).key ∧ (∃ m, F1 (j * 3 + 1) = .map m ∧ DepOK w (.map m) (D j)) ∧ F1 (j * 3 + 2) = .string (hexS (D j).dig)
def WrOut (w : World) (F2 : Nat → Value) (E : Nat → WD) (k : Nat) : Prop := ∀ j, j < k → F2 (j * 5 + 1) = .string (E j).key ∧ WOut w (E j) (F2 (j * 5)) (F2 (j * 5 + 2)) (F2 (j * 5 + 3)) (F2 (j * 5 + 4))

theorem RdOut.since {w w' : World} {F1 : Nat → Value} {D : Nat → RD} {k : Nat} (h : RdOut w F1 D k) (hs : w.Since w.heap.size w') : RdOut w' F1 D k := fun j hj => by
  obtain ⟨h0, ⟨m, h1, h2⟩, h3⟩ := h j hj
  exact ⟨h0, ⟨m, h1, h2.since hs⟩, h3⟩
theorem WrOut.since {w w' : World} {F2 : Nat → Value} {E : Nat → WD} {k : Nat} (h : WrOut w F2 E k) (hs : w.Since w.heap.size w') : WrOut w' F2 E k := fun j hj => ⟨(h j hj).1, (h j hj).2.since hs⟩

theorem WireTx.keep {w wr w5 : World} {B b1 b2 bt G M : Nat} {F1 F2 : Nat → Value} (hT : WireTx w B wr b1 b2 bt G M F1 F2) (hs : wr.Since wr.heap.size w5) : WireTx w B w5 b1 b2 bt G M F1 F2 :=
  ⟨hT.since.trans (since_mono hs (Nat.le_trans hT.l1 (Nat.le_of_lt hT.row1.lt))), hT.l1, hT.l2, hT.lt, hT.n12, hT.n1t, hT.n2t, hT.row1.of_block (hs.block _ hT.row1.lt), hT.row2.of_block (hs.block _ hT.row2.lt), cell_keep hs hT.c0, cell_keep hs hT.c1⟩

theorem WireTx.stepR {w wr : World} {B b1 b2 bt G M : Nat} {F1 F2 : Nat → Value} {D : Nat → RD} {i : Nat} {m : Option Nat} (hT : WireTx w B wr b1 b2 bt G M F1 F2) (hdn : RdOut wr F1 D i) (hd : DepOK wr (.map m) (D i)) :
    ∃ F1', WireTx w B (((wr.setCell ⟨b1, i * 3, none⟩ (.string (D i).key)).setCell ⟨b1, i * 3 + 1, none⟩ (.map m)).setCell ⟨b1, i * 3 + 2, none⟩ (.string (hexS (D i).dig))) b1 b2 bt G M F1' F2 ∧
      RdOut (((wr.setCell ⟨b1, i * 3, none⟩ (.string (D i).key)).setCell ⟨b1, i * 3 + 1, none⟩ (.map m)).setCell ⟨b1, i * 3 + 2, none⟩ (.string (hexS (D i).dig))) F1' D (i + 1) := by
  show ∃ F1', WireTx w B (wr.setCells b1 (i * 3) [.string (D i).key, .map m, .string (hexS (D i).dig)]) b1 b2 bt G M F1' F2 ∧ RdOut (wr.setCells b1 (i * 3) [.string (D i).key, .map m, .string (hexS (D i).dig)]) F1' D (i + 1)
  obtain ⟨F1', r1', hin, hout⟩ := rowIs_setCells [.string (D i).key, .map m, .string (hexS (D i).dig)] (i * 3) hT.row1
  have e0 := hin 0 (by simp)
  have e1 := hin 1 (by simp)
  have e2 := hin 2 (by simp)
  simp at e0 e1 e2
  refine ⟨F1', ⟨since_setCells hT.l1 _ _ hT.since, hT.l1, hT.l2, hT.lt, hT.n12, hT.n1t, hT.n2t, r1', hT.row2.of_block (setCells_heap _ _ _ _ (Ne.symm hT.n12)), setCells_cell (Ne.symm hT.n1t) hT.c0, setCells_cell (Ne.symm hT.n1t) hT.c1⟩, fun j hj => ?_⟩
  by_cases e : j = i
  · subst e
    exact ⟨e0.symm, ⟨m, e1.symm, DepOK.setCells _ _ hd hT.row1⟩, e2.symm⟩
  · obtain ⟨d0, ⟨m', d1, d1'⟩, d2⟩ := hdn j (by omega)
    rw [hout (j * 3) (by simp; omega), hout (j * 3 + 1) (by simp; omega), hout (j * 3 + 2) (by simp; omega)]
    exact ⟨d0, ⟨m', d1, DepOK.setCells _ _ d1' hT.row1⟩, d2⟩

theorem WireTx.stepW {w wr : World} {B b1 b2 bt G M : Nat} {F1 F2 : Nat → Value} {D : Nat → RD} {E : Nat → WD} {i : Nat} {o v dl p : Value} (hT : WireTx w B wr b1 b2 bt G M F1 F2) (hdn : RdOut wr F1 D G) (hwd : WrOut wr F2 E i) (hd : WOut wr (E i) o v dl p) :
    ∃ F2', WireTx w B (((((wr.setCell ⟨b2, i * 5, none⟩ o).setCell ⟨b2, i * 5 + 1, none⟩ (.string (E i).key)).setCell ⟨b2, i * 5 + 2, none⟩ v).setCell ⟨b2, i * 5 + 3, none⟩ dl).setCell ⟨b2, i * 5 + 4, none⟩ p) b1 b2 bt G M F1 F2' ∧
      RdOut (((((wr.setCell ⟨b2, i * 5, none⟩ o).setCell ⟨b2, i * 5 + 1, none⟩ (.string (E i).key)).setCell ⟨b2, i * 5 + 2, none⟩ v).setCell ⟨b2, i * 5 + 3, none⟩ dl).setCell ⟨b2, i * 5 + 4, none⟩ p) F1 D G ∧
      WrOut (((((wr.setCell ⟨b2, i * 5, none⟩ o).setCell ⟨b2, i * 5 + 1, none⟩ (.string (E i).key)).setCell ⟨b2, i * 5 + 2, none⟩ v).setCell ⟨b2, i * 5 + 3, none⟩ dl).setCell ⟨b2, i * 5 + 4, none⟩ p) F2' E (i + 1) := by
  show ∃ F2', WireTx w B (wr.setCells b2 (i * 5) [o, .string (E i).key, v, dl, p]) b1 b2 bt G M F1 F2' ∧ RdOut (wr.setCells b2 (i * 5) [o, .string (E i).key, v, dl, p]) F1 D G ∧ WrOut (wr.setCells b2 (i * 5) [o, .string (E i).key, v, dl, p]) F2' E (i + 1)
  obtain ⟨F2', r2', hin, hout⟩ := rowIs_setCells [o, .string (E i).key, v, dl, p] (i * 5) hT.row2
  have e0 := hin 0 (by simp)
  have e1 := hin 1 (by simp)
  have e2 := hin 2 (by simp)
  have e3 := hin 3 (by simp)
  have e4 := hin 4 (by simp)
  simp at e0 e1 e2 e3 e4
  refine ⟨F2', ⟨since_setCells hT.l2 _ _ hT.since, hT.l1, hT.l2, hT.lt, hT.n12, hT.n1t, hT.n2t, hT.row1.of_block (setCells_heap _ _ _ _ hT.n12), r2', setCells_cell (Ne.symm hT.n2t) hT.c0, setCells_cell (Ne.symm hT.n2t) hT.c1⟩, fun j hj => ?_, fun j hj => ?_⟩
  · obtain ⟨d0, ⟨m', d1, d1'⟩, d2⟩ := hdn j hj
    exact ⟨d0, ⟨m', d1, DepOK.setCells _ _ d1' hT.row2⟩, d2⟩
  · by_cases e : j = i
    · subst e
      rw [← e0, ← e1, ← e2, ← e3, ← e4]
      exact ⟨rfl, hd.setCells hT.row2 (by decide) (by decide) _ _⟩
    · rw [hout (j * 5) (by simp; omega), hout (j * 5 + 1) (by simp; omega), hout (j * 5 + 2) (by simp; omega), hout (j * 5 + 3) (by simp; omega), hout (j * 5 + 4) (by simp; omega)]
      exact ⟨(hwd j (by omega)).1, (hwd j (by omega)).2.setCells hT.row2 (by decide) (by decide) _ _⟩

def WirePost (w : World) (G M : Nat) (D : Nat → RD) (E : Nat → WD) (e : Ending) (w' : World) : Prop :=
  ∃ b1 b2 bt F1 F2, e = .returned (.pointer (some ⟨bt, 0, none⟩)) ∧ WireTx w w.heap.size w' b1 b2 bt G M F1 F2 ∧ RdOut w' F1 D G ∧ WrOut w' F2 E M

theorem WOut.shape {w : World} {d : WD} {o v dl p : Value} (h : WOut w d o v dl p) : ∃ os va vn vc dz pa, o = .string os ∧ v = .slice va vn vc ∧ dl = .int .i64 dz ∧ p = .pointer pa := by
  rcases h with ⟨_, rfl, ⟨vb, vc, rfl, _⟩, rfl, pb, rfl, _⟩ | ⟨_, rfl, rfl, rfl, rfl⟩ | ⟨_, rfl, rfl, rfl, pb, rfl, _⟩ | ⟨_, _, _, rfl, rfl, rfl, rfl⟩
  · exact ⟨_, _, _, _, _, _, rfl, rfl, rfl, rfl⟩
  · exact ⟨_, _, _, _, _, _, rfl, rfl, rfl, rfl⟩
  · exact ⟨_, _, _, _, _, _, rfl, rfl, rfl, rfl⟩
  · exact ⟨_, _, _, _, _, _, rfl, rfl, rfl, rfl⟩

theorem set5_other {w : World} {b1 o0 o1 o2 o3 o4 : Nat} {v0 v1 v2 v3 v4 : Value} {b o : Nat} {v : Value} (hne : b ≠ b1) (h : w.cell? ⟨b, o, none⟩ = some v) : (((((w.setCell ⟨b1, o0, none⟩ v0).setCell ⟨b1, o1, none⟩ v1).setCell ⟨b1, o2, none⟩ v2).setCell ⟨b1, o3, none⟩ v3).setCell ⟨b1, o4, none⟩ v4).cell? ⟨b, o, none⟩ = some v := by
  rw [World.cell?_of_block (w := w) ((Below.heap_setCell _ _ _ _ hne).trans ((Below.heap_setCell _ _ _ _ hne).trans ((Below.heap_setCell _ _ _ _ hne).trans ((Below.heap_setCell _ _ _ _ hne).trans (Below.heap_setCell _ _ _ _ hne)))))]
  exact h

theorem bw_cell {w : World} {s : ByteArray} {b o : Nat} {v : Value} (h : w.cell? ⟨b, o, none⟩ = some v) : (bytesWorld w 5 s).cell? ⟨b, o, none⟩ = some v := (bytesWorld_old w 5 s ⟨b, o, none⟩ (cell_blk h)).trans h

theorem wpList_load_arr {P : Program} {ops : Array Oper} {rest : List Oper} {op : Oper} {a : Act} {w : World} {Q : Exit → Act → World → Prop} (hgd : op.guard = none) (ty : TypeId) (x : Operand) (ho : op.op = .load ty x)
    (b o : Nat) (hx : a.eval x = .pointer (some ⟨b, o, none⟩)) (U : Array Value) (d : TypeDesc) (hc : w.rangeAt b o U.toList)
    (hu : P.underlying ty = some d) (hd : d.isRow = true) (hi : (P.info? ty).map (·.size) = some U.size)
    (h : wpList P ops Q rest (a.put op.dst (.agg U)) w) : wpList P ops Q (op :: rest) a w :=
  wpList_load_mid hgd ty x ho b o hx U.toList d hc hu hd (by simpa using hi) (by simpa using h)

end Go.Proofs.Qxb6618655a
