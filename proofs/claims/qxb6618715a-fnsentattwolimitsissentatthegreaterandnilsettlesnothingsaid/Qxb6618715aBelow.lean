/-
  precedent: sent (34) with the limit and no map; ZZsentBelow (27).
-/
import Derived.Test.Qxb6618715aSent
namespace Go.Proofs.Qxb6618715a
open Go.RowKit
set_option linter.unusedVariables false

structure Nil4 (w : World) (node : ByteArray) (run seq : Int) (p : Bool) (wr : World) : Prop where
  since : w.Since w.heap.size wr
  box : wr.heap[w.heap.size]? = some (.cells (uCells node run seq none p) 33 (0, 0))
  res : wr.heap[w.heap.size + 1]? = some (.cells zeroU 33 (0, 0))
  map : OM wr (w.heap.size + 1 + 1) 0 (fun _ => none) 0
  next : (Instr.next (.pointer (some ⟨w.heap.size + 1 + 1 + 1, 0, none⟩)) false 0).run Try.prog wr = .ok (.tuple #[.bool false]) wr

theorem nil4 (w : World) (node : ByteArray) (run seq : Int) (p : Bool) : Nil4 w node run seq p ((((w.alloc (.cells (uCells node run seq none p) 33)).alloc (.cells zeroU 33)).alloc (.map #[] 0)).alloc (.mapIter none 0 #[] 0)) := by
  obtain ⟨b0, b1, b2, b3, b4, b5⟩ := at4 w (.cells (uCells node run seq none p) 33) (.cells zeroU 33) (.map #[] 0) (.mapIter none 0 #[] 0)
  have hN := mapV_made orgKit Try.prog 30 ((w.alloc (.cells (uCells node run seq none p) 33)).alloc (.cells zeroU 33))
  have e2 : ((w.alloc (.cells (uCells node run seq none p) 33)).alloc (.cells zeroU 33)).heap.size = w.heap.size + 1 + 1 := by simp
  have e3 : (((w.alloc (.cells (uCells node run seq none p) 33)).alloc (.cells zeroU 33)).alloc (.map #[] 0)).heap.size = w.heap.size + 1 + 1 + 1 := by simp
  rw [e2] at hN
  refine ⟨b4, b0, b1, hN.of_block (Below.heap_alloc _ _ _ (by rw [e3]; omega)), ?_⟩
  have := run_next_nilMap (P := Try.prog) (((w.alloc (.cells (uCells node run seq none p) 33)).alloc (.cells zeroU 33)).alloc (.map #[] 0)) 0 0 0 #[]
  rw [e3] at this
  exact this

set_option maxRecDepth 100000 in
set_option maxHeartbeats 4000000 in
theorem sent_lim_nil (sb lb : Nat) (node : ByteArray) (run seq : Int) (n : Nat) (lim : Int) (p : Bool) (w : World) :
    Calls Try.prog 34 #[.pointer (some ⟨sb, 0, none⟩), uVal node run seq none p, .func (.func 35) #[] #[.pointer (some ⟨lb, 0, none⟩)]] w (SentPost w node run seq n (fun _ => none) lim p) := by
  have hfn := func_nil lb
  have hmm : ∀ W : World, (Instr.makeMap 31 (some (.int .i64 0))).run Try.prog W = .ok (.map (some W.heap.size)) (W.alloc (.map #[] 0)) := fun W => run_makeMap31 0 W
  have hrun := fun W : World => run_range_nilMap (P := Try.prog) W 31 30 23 Try.underlying31
  have HN : Hid (Nil4 w node run seq p ((((w.alloc (.cells (uCells node run seq none p) 33)).alloc (.cells zeroU 33)).alloc (.map #[] 0)).alloc (.mapIter none 0 #[] 0))) := nil4 w node run seq p
  unfold uVal
  unfold uCells
  go_enter Try.func34, Try.ntmps34
  go_wp2_with fail
  go_loopg [20] 1 (fun g _ wr => g = 1 ∧ Nil4 w node run seq p wr)
  case atStart => exact ⟨rfl, HN.out⟩
  case round =>
    clear HN hmm hrun hfn
    obtain ⟨rfl, hS⟩ := hrel
    have hnx := hS.next
    have g4 : wr.cell? ⟨w.heap.size, 4, none⟩ = some (.map none) := by rw [ucell hS.box]; rfl
    have z4 : wr.frozen? ⟨w.heap.size, 4, none⟩ = false := ufrozen hS.box 4
    have hbox : (wr.setCell ⟨w.heap.size, 4, none⟩ (.map (some (w.heap.size + 1 + 1)))).heap[w.heap.size]? = some (.cells (uCells node run seq (some (w.heap.size + 1 + 1)) p) 33 (0, 0)) := by
      rw [setCell_row hS.box]
      rfl
    have hres : (wr.setCell ⟨w.heap.size, 4, none⟩ (.map (some (w.heap.size + 1 + 1)))).heap[w.heap.size + 1]? = some (.cells zeroU 33 (0, 0)) := by
      rw [setCell_blk (by omega)]
      exact hS.res
    have hM3 : OM (wr.setCell ⟨w.heap.size, 4, none⟩ (.map (some (w.heap.size + 1 + 1)))) (w.heap.size + 1 + 1) 0 (fun _ => none) 0 := hS.map.of_block (setCell_blk (by omega) _)
    have hsi : w.Since w.heap.size (wr.setCell ⟨w.heap.size, 4, none⟩ (.map (some (w.heap.size + 1 + 1)))) := hS.since.setCell (Nat.le_refl _) _
    have HB : Hid ((wr.setCell ⟨w.heap.size, 4, none⟩ (.map (some (w.heap.size + 1 + 1)))).heap[w.heap.size]? = some (.cells (uCells node run seq (some (w.heap.size + 1 + 1)) p) 33 (0, 0))) := hbox
    have HR : Hid ((wr.setCell ⟨w.heap.size, 4, none⟩ (.map (some (w.heap.size + 1 + 1)))).heap[w.heap.size + 1]? = some (.cells zeroU 33 (0, 0))) := hres
    clear hbox hres
    generalize huc : uCells node run seq (some (w.heap.size + 1 + 1)) p = U at HB
    have HU : Hid (uCells node run seq (some (w.heap.size + 1 + 1)) p = U) := huc
    clear huc
    go_wp2_with (first
      | (refine wpList_store_row rfl 33 _ _ rfl (w.heap.size + 1) U rfl rfl 33 zeroU HR.out (by rw [← HU.out]; exact size33 _ _ _ _ _) (by rw [← HU.out]; rfl) (by rw [← HU.out]; exact one33 _ _ _ _ _) ?_)
      | (refine wpList_load_row rfl 33 _ rfl w.heap.size rfl 33 U (0, 0) _ HB.out Try.underlying33 rfl (by rw [← HU.out]; exact size33 _ _ _ _ _) ?_))
    have hl : (loadVar 33 ⟨w.heap.size + 1, 0, none⟩).run Try.prog ((wr.setCell ⟨w.heap.size, 4, none⟩ (.map (some (w.heap.size + 1 + 1)))).setRow (w.heap.size + 1) U) = .ok (.agg U) _ :=
      run_loadVar_row _ _ 33 33 U (0, 0) _ (setRow_heap _ _ zeroU _ 33 (0, 0) HR.out) Try.underlying33 rfl (by rw [← HU.out]; exact size33 _ _ _ _ _)
    refine bodyPost_ret (v := .agg U) (results_cell Try.results34 rfl hl) rfl ⟨w.heap.size + 1 + 1, fun _ => none, 0, p, by rw [← HU.out]; rfl, since_setRow hsi (by omega) _, by omega, (hM3.of_block (setRow_other _ _ _ _ (by omega))).mono (by omega), fun x hx => rfl, ?_⟩
    constructor
    · exact fun h => Or.inl h
    · rintro (h | ⟨x, v, _, hf, _⟩)
      · exact h
      · cases hf

/-- The counts that an Update bears: none, or a map's. -/
def Src (w : World) (m : Option Nat) (n : Nat) (f : Org → Option Int) : Prop := (m = none ∧ f = fun _ => none) ∨ ∃ mb sz, m = some mb ∧ OM w mb n f sz

theorem sent_any (sb rb lb : Nat) (node : ByteArray) (run seq : Int) (m : Option Nat) (n : Nat) (f : Org → Option Int) (lim : Int) (p : Bool) (w : World) (hn : n ≤ 1048576)
    (h4 : w.cell? ⟨sb, 4, none⟩ = some (.map (some rb))) (hrb : w.heap[rb]? = some (.map #[] 0)) (hl : w.cell? ⟨lb, 0, none⟩ = some (.int .u64 lim)) (hM : Src w m n f) :
    Calls Try.prog 34 #[.pointer (some ⟨sb, 0, none⟩), uVal node run seq m p, .func (.func 35) #[] #[.pointer (some ⟨lb, 0, none⟩)]] w (SentPost w node run seq n f lim p) := by
  rcases hM with ⟨rfl, rfl⟩ | ⟨mb, sz, rfl, hM⟩
  · exact sent_lim_nil sb lb node run seq n lim p w
  · exact sent_lim sb rb lb node run seq mb n f sz lim p w hn h4 hrb hl hM

theorem at5 (w : World) (o1 o2 o3 o4 o5 : Obj) : (((((w.alloc o1).alloc o2).alloc o3).alloc o4).alloc o5).heap[w.heap.size + 1]? = some o2 ∧ (((((w.alloc o1).alloc o2).alloc o3).alloc o4).alloc o5).heap[w.heap.size + 1 + 1]? = some o3 ∧ (((((w.alloc o1).alloc o2).alloc o3).alloc o4).alloc o5).heap[w.heap.size + 1 + 1 + 1]? = some o4 ∧
    (((((w.alloc o1).alloc o2).alloc o3).alloc o4).alloc o5).heap[w.heap.size + 1 + 1 + 1 + 1]? = some o5 ∧ w.Since w.heap.size (((((w.alloc o1).alloc o2).alloc o3).alloc o4).alloc o5) ∧ (((((w.alloc o1).alloc o2).alloc o3).alloc o4).alloc o5).heap.size = w.heap.size + 5 := by
  obtain ⟨h1, h2, h3, h4, h5, h6⟩ := at4 w o1 o2 o3 o4
  refine ⟨?_, ?_, ?_, ?_, h5.alloc (by omega) _, by simp⟩
  · rw [Below.heap_alloc _ _ _ (by omega)]; exact h2
  · rw [Below.heap_alloc _ _ _ (by omega)]; exact h3
  · rw [Below.heap_alloc _ _ _ (by omega)]; exact h4
  · have := heap_alloc_new ((((w.alloc o1).alloc o2).alloc o3).alloc o4) o5
    rw [h6] at this
    exact this

theorem src_since {w w' : World} {m : Option Nat} {n : Nat} {f : Org → Option Int} (hs : w.Since w.heap.size w') (h : Src w m n f) : Src w' m n f := by
  rcases h with h | ⟨mb, sz, rfl, hM⟩
  · exact Or.inl h
  · exact Or.inr ⟨mb, sz, rfl, hM.of_block (hs.block mb hM.lt)⟩

theorem after5 {w w1 : World} {o1 o2 o3 o4 o5 : Obj} {mb : Nat} (hs : (((((w.alloc o1).alloc o2).alloc o3).alloc o4).alloc o5).Since (((((w.alloc o1).alloc o2).alloc o3).alloc o4).alloc o5).heap.size w1) (hm : (((((w.alloc o1).alloc o2).alloc o3).alloc o4).alloc o5).heap.size ≤ mb) :
    w1.heap[w.heap.size + 1 + 1]? = some o3 ∧ w.Since w.heap.size w1 ∧ w.heap.size + 5 ≤ mb := by
  obtain ⟨h1, h2, h3, h4, h5, h6⟩ := at5 w o1 o2 o3 o4 o5
  rw [h6] at hs hm
  exact ⟨(hs.block _ (by omega)).trans h2, h5.trans (since_mono hs (by omega)), hm⟩

set_option maxRecDepth 100000 in
set_option maxHeartbeats 4000000 in
theorem zz_below (node : ByteArray) (run seq : Int) (m : Option Nat) (n : Nat) (f : Org → Option Int) (lim : Int) (p : Bool) (w : World) (hn : n ≤ 1048576) (hM : Src w m n f) :
    Calls Try.prog 27 #[uVal node run seq m p, .int .u64 lim] w (SentPost w node run seq n f lim p) := by
  have hmm := run_makeMap67
  have hmf := run_makeFunc35
  unfold uVal uCells
  go_enter Try.func27, Try.ntmps27
  go_wp2_with fail
  refine (sent_any (w.heap.size + 1 + 1 + 1 + 1) (w.heap.size + 1 + 1 + 1) (w.heap.size + 1) node run seq m n f lim p _ hn ((ucell (at5 w _ _ _ _ _).2.2.2.1 4).trans rfl) (at5 w _ _ _ _ _).2.2.1 ((ucell (at5 w _ _ _ _ _).1 0).trans rfl) (src_since (at5 w _ _ _ _ _).2.2.2.2.1 hM)).mono ?_
  rintro e w1 ⟨mb', f', sz', p', rfl, hs, hmb', hM', hf', hp'⟩
  obtain ⟨hg, hB, hle⟩ := after5 hs hmb'
  have HG : Hid (w1.heap[w.heap.size + 1 + 1]? = some (.cells zeroU 33 (0, 0))) := hg
  have HP : Hid (p' = true ↔ p = true ∨ ∃ x v, OkO x ∧ f x = some v ∧ v ≤ lim) := hp'
  clear hg hs hmb' hmm hmf hp' hM
  unfold uVal
  generalize huc : uCells node run seq (some mb') p' = U
  have HU : Hid (uCells node run seq (some mb') p' = U) := huc
  clear huc
  go_wp2_with (first | (refine wpList_store_row rfl 33 _ _ rfl (w.heap.size + 1 + 1) U rfl rfl 33 zeroU HG.out (by rw [← HU.out]; exact size33 _ _ _ _ _) (by rw [← HU.out]; rfl) (by rw [← HU.out]; exact one33 _ _ _ _ _) ?_))
  have hl : (loadVar 33 ⟨w.heap.size + 1 + 1, 0, none⟩).run Try.prog (w1.setRow (w.heap.size + 1 + 1) U) = .ok (.agg U) (w1.setRow (w.heap.size + 1 + 1) U) :=
    run_loadVar_row _ _ 33 33 U (0, 0) _ (setRow_heap _ _ zeroU _ 33 (0, 0) HG.out) Try.underlying33 rfl (by rw [← HU.out]; exact size33 _ _ _ _ _)
  exact bodyPost_ret (v := .agg U) (results_cell Try.results27 rfl hl) rfl ⟨mb', f', sz', p', by rw [← HU.out]; rfl, since_setRow hB (by omega) _, by omega, hM'.of_block (setRow_other _ _ _ _ (by omega)), hf', HP.out⟩
end Go.Proofs.Qxb6618715a
