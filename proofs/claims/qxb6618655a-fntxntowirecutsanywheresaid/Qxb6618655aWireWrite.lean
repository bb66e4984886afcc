/-
  leeway, the wire: WithWeight (39), zzStoreWrite (31).
-/
import Derived.Test.Qxb6618655aWireDom
namespace Go.Proofs.Qxb6618655a
open Go.RowKit Go.Lib
set_option linter.unusedVariables false

/-- The cells of a store.Write. -/
def sCells (op : Int) (key val : ByteArray) (dlt giv : Int) (wgh : Bool) : Array Value :=
  #[.int .i64 0, .string ⟨#[]⟩, .int .u8 op, .string key, .string val, .int .i64 dlt, .pointer none, .int .i64 giv, .bool wgh, .int .i64 0, .int .i64 0]

theorem alloc2 (w : World) (o1 o2 : Obj) : w.Since w.heap.size ((w.alloc o1).alloc o2) := ((World.Since.refl w.heap.size w).alloc (Nat.le_refl _) _).alloc (by simp) _
theorem alloc1 (w : World) (o1 : Obj) : w.Since w.heap.size (w.alloc o1) := ((World.Since.refl w.heap.size w).alloc (Nat.le_refl _) _)

set_option maxRecDepth 100000 in
set_option maxHeartbeats 1000000 in
theorem with_weight (op : Int) (key val : ByteArray) (dlt giv : Int) (wgh : Bool) (wt : Int) (pb : Nat) (w : World) (hp : w.cell? ⟨pb, 0, none⟩ = some (.int .i64 wt)) :
    Calls Try.prog 39 #[.agg (sCells op key val dlt giv wgh), .pointer (some ⟨pb, 0, none⟩)] w fun e w' => e = .returned (.agg (sCells op key val dlt (if wt = 1 then 0 else wt) (!(wt == 1)))) ∧ w.Since w.heap.size w' := by
  have hlt := cell_blk hp
  unfold sCells
  by_cases h1 : wt = 1
  · subst h1
    go_enter Try.func39, Try.ntmps39
    go_wp2_with fail
    exact bodyPost_ret (v := .agg (sCells op key val dlt 0 false)) (by simp [results, Try.results39, go_sem, sCells]) rfl ⟨rfl, alloc2 w _ _⟩
  · have hne : (wt == 1) = false := by simp [h1]
    rw [if_neg h1, hne]
    clear h1
    go_enter Try.func39, Try.ntmps39
    go_wp2_with fail
    exact bodyPost_ret (v := .agg (sCells op key val dlt wt true)) (by simp [results, Try.results39, go_sem, sCells]) rfl ⟨rfl, alloc2 w _ _⟩

/-- The weight as the store keeps it. -/
def WD.giv (e : WD) : Int := if e.wd = true then (if e.wt = 1 then 0 else e.wt) else 0
def WD.wgh (e : WD) : Bool := e.wd && !(e.wt == 1)
def WD.sc (e : WD) : Array Value := sCells e.op e.key e.val e.dlt e.giv e.wgh

theorem results_cell {P : Program} {fn : Func} {tmps : Array Value} {k : Nat} {t : TypeId} {a : Addr} {v : Value} {w : World} (hr : fn.results = #[.cell k t]) (ht : tmps.getD k undef = .pointer (some a)) (hl : (loadVar t a).run P w = .ok v w) :
    (results fn tmps).run P w = .ok v w := by
  have ht' : tmps[k]?.getD undef = .pointer (some a) := by simpa using ht
  simp [results, hr, ht', hl, asAddr]

theorem at4 (w : World) (o1 o2 o3 o4 : Obj) : ((((w.alloc o1).alloc o2).alloc o3).alloc o4).heap[w.heap.size]? = some o1 ∧ ((((w.alloc o1).alloc o2).alloc o3).alloc o4).heap[w.heap.size + 1]? = some o2 ∧
    ((((w.alloc o1).alloc o2).alloc o3).alloc o4).heap[w.heap.size + 1 + 1]? = some o3 ∧ ((((w.alloc o1).alloc o2).alloc o3).alloc o4).heap[w.heap.size + 1 + 1 + 1]? = some o4 ∧ w.Since w.heap.size ((((w.alloc o1).alloc o2).alloc o3).alloc o4) ∧ ((((w.alloc o1).alloc o2).alloc o3).alloc o4).heap.size = w.heap.size + 4 := by
  refine ⟨?_, ?_, ?_, ?_, (((((World.Since.refl w.heap.size w).alloc (Nat.le_refl _) _).alloc (by simp) _).alloc (by simp; omega) _).alloc (by simp; omega) _), by simp⟩
  · show ((((w.heap.push o1).push o2).push o3).push o4)[w.heap.size]? = _
    rw [Array.getElem?_push, if_neg (by first | (simp; done) | (simp; omega)), Array.getElem?_push, if_neg (by first | (simp; done) | (simp; omega)), Array.getElem?_push, if_neg (by simp), Array.getElem?_push, if_pos rfl]
  · show ((((w.heap.push o1).push o2).push o3).push o4)[w.heap.size + 1]? = _
    rw [Array.getElem?_push, if_neg (by first | (simp; done) | (simp; omega)), Array.getElem?_push, if_neg (by simp), Array.getElem?_push, if_pos (by simp)]
  · show ((((w.heap.push o1).push o2).push o3).push o4)[w.heap.size + 1 + 1]? = _
    rw [Array.getElem?_push, if_neg (by simp), Array.getElem?_push, if_pos (by simp)]
  · show ((((w.heap.push o1).push o2).push o3).push o4)[w.heap.size + 1 + 1 + 1]? = _
    rw [Array.getElem?_push, if_pos (by simp)]

theorem after4 {w w1 : World} {o1 o2 o3 o4 : Obj} (hs : ((((w.alloc o1).alloc o2).alloc o3).alloc o4).Since ((((w.alloc o1).alloc o2).alloc o3).alloc o4).heap.size w1) :
    w1.heap[w.heap.size]? = some o1 ∧ w1.heap[w.heap.size + 1]? = some o2 ∧ w1.heap[w.heap.size + 1 + 1]? = some o3 ∧ w1.heap[w.heap.size + 1 + 1 + 1]? = some o4 ∧ w.Since w.heap.size w1 := by
  obtain ⟨h1, h2, h3, h4, h5, h6⟩ := at4 w o1 o2 o3 o4
  rw [h6] at hs
  exact ⟨(hs.block _ (by omega)).trans h1, (hs.block _ (by omega)).trans h2, (hs.block _ (by omega)).trans h3, (hs.block _ (by omega)).trans h4, h5.trans (since_mono hs (by omega))⟩

theorem since_setRow {B : Nat} {w w' : World} (h : w.Since B w') {g : Nat} (hg : B ≤ g) (cs : Array Value) : w.Since B (w'.setRow g cs) :=
  ⟨h.os, h.tape, h.output, by simp [World.setRow]; exact h.size, fun k hk => by rw [setRow_other _ _ _ _ (by omega)]; exact h.block k hk⟩

theorem size104 (op : Int) (key val : ByteArray) (dlt giv : Int) (wgh : Bool) : (Try.prog.info? 104).map (·.size) = some (sCells op key val dlt giv wgh).size := by
  show _ = some 11
  kernel_rfl
theorem one104 (op : Int) (key val : ByteArray) (dlt giv : Int) (wgh : Bool) : (sCells op key val dlt giv wgh).all (·.oneCell') = true := by
  simp [sCells, Value.oneCell']

set_option maxRecDepth 100000 in
set_option maxHeartbeats 1000000 in
theorem store_write (d : WD) (w : World) :
    Calls Try.prog 31 #[.agg #[.int .u8 d.op, .string d.key, .string d.val, .int .i64 d.dlt, .bool d.wd, .int .i64 d.wt]] w fun e w' => e = .returned (.agg d.sc) ∧ w.Since w.heap.size w' := by
  cases hw : d.wd with
  | false =>
    have e1 : d.sc = sCells d.op d.key d.val d.dlt 0 false := by simp [WD.sc, WD.giv, WD.wgh, hw]
    rw [e1]
    clear e1 hw
    go_enter Try.func31, Try.ntmps31
    go_wp2_with fail
    exact bodyPost_ret (v := .agg (sCells d.op d.key d.val d.dlt 0 false)) (by simp [results, Try.results31, go_sem, sCells]) rfl ⟨rfl, (alloc2 w _ _).alloc (by simp; omega) _⟩
  | true =>
    have e1 : d.sc = sCells d.op d.key d.val d.dlt (if d.wt = 1 then 0 else d.wt) (!(d.wt == 1)) := by simp [WD.sc, WD.giv, WD.wgh, hw]
    have HE : Hid (d.sc = sCells d.op d.key d.val d.dlt (if d.wt = 1 then 0 else d.wt) (!(d.wt == 1))) := e1
    clear e1 hw
    go_enter Try.func31, Try.ntmps31
    go_wp2_with fail
    refine (with_weight d.op d.key d.val d.dlt 0 false d.wt (w.heap.size + 1 + 1 + 1) _ ((cell_of_row _ _ 0 _ _ _ (at4 w _ _ _ _).2.2.2.1).trans rfl)).mono ?_
    rintro e w1 ⟨rfl, hs⟩
    obtain ⟨_, h1, h2, _, hB⟩ := after4 hs
    have H1 : Hid (w1.heap[w.heap.size + 1]? = some (.cells (sCells 0 ⟨#[]⟩ ⟨#[]⟩ 0 0 false) 104 (0, 0))) := h1
    have H2 : Hid (w1.heap[w.heap.size + 1 + 1]? = some (.cells (sCells d.op d.key d.val d.dlt 0 false) 104 (0, 0))) := h2
    clear h1 h2 hs
    rw [← HE.out]
    generalize huc : d.sc = U at HE ⊢
    have HU : Hid (sCells d.op d.key d.val d.dlt (if d.wt = 1 then 0 else d.wt) (!(d.wt == 1)) = U) := HE.out.symm
    have HQ : Hid (d.sc = U) := huc
    clear huc HE
    have HA : Hid ((w1.setRow (w.heap.size + 1 + 1) U).heap[w.heap.size + 1 + 1]? = some (.cells U 104 (0, 0))) := setRow_heap _ _ _ _ 104 (0, 0) H2.out
    have HB : Hid ((w1.setRow (w.heap.size + 1 + 1) U).heap[w.heap.size + 1]? = some (.cells (sCells 0 ⟨#[]⟩ ⟨#[]⟩ 0 0 false) 104 (0, 0))) := by
      unfold Hid
      rw [setRow_other _ _ _ _ (by omega)]
      exact H1.out
    go_wp2_with (first
      | (refine wpList_store_row rfl 104 _ _ rfl (w.heap.size + 1 + 1) U rfl rfl 104 _ H2.out (by rw [← HU.out]; exact size104 _ _ _ _ _ _) (by rw [← HU.out]; rfl) (by rw [← HU.out]; exact one104 _ _ _ _ _ _) ?_)
      | (refine wpList_store_row rfl 104 _ _ rfl (w.heap.size + 1) U rfl rfl 104 _ HB.out (by rw [← HU.out]; exact size104 _ _ _ _ _ _) (by rw [← HU.out]; rfl) (by rw [← HU.out]; exact one104 _ _ _ _ _ _) ?_)
      | (refine wpList_load_row rfl 104 _ rfl (w.heap.size + 1 + 1) rfl 104 U (0, 0) _ HA.out Try.underlying104 rfl (by rw [← HU.out]; exact size104 _ _ _ _ _ _) ?_))
    have hl : (loadVar 104 ⟨w.heap.size + 1, 0, none⟩).run Try.prog ((w1.setRow (w.heap.size + 1 + 1) U).setRow (w.heap.size + 1) U) = .ok (.agg U) _ :=
      run_loadVar_row _ _ 104 104 U (0, 0) _ (setRow_heap _ _ _ _ 104 (0, 0) HB.out) Try.underlying104 rfl (by rw [← HU.out]; exact size104 _ _ _ _ _ _)
    exact bodyPost_ret (v := .agg U) (results_cell Try.results31 rfl hl) rfl ⟨by rw [HQ.out], since_setRow (since_setRow hB (by omega) _) (by omega) _⟩
end Go.Proofs.Qxb6618655a
