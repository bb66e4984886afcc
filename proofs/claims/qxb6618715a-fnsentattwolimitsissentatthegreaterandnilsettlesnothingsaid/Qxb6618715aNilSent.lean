/-
  precedent: sent (34), ZZsentBelow (27) and its closure (35), ZZsentNil (29).
-/
import Derived.Test.Qxb6618715aKnown
namespace Go.Proofs.Qxb6618715a
open Go.RowKit
set_option linter.unusedVariables false

/-- The cells of an Update as the law builds it. -/
def uCells (node : ByteArray) (run seq : Int) (m : Option Nat) (p : Bool) : Array Value :=
  #[.string ⟨#[]⟩, .string node, .int .u64 run, .int .u64 seq, .map m, .int .u64 0, .bool p, .int .u64 0, .string ⟨#[]⟩, .slice none 0 0, .bool false, .pointer none]
def uVal (node : ByteArray) (run seq : Int) (m : Option Nat) (p : Bool) : Value := .agg (uCells node run seq m p)

theorem size33 (node : ByteArray) (run seq : Int) (m : Option Nat) (p : Bool) : (Try.prog.info? 33).map (·.size) = some (uCells node run seq m p).size := by
  show _ = some 12
  kernel_rfl
theorem one33 (node : ByteArray) (run seq : Int) (m : Option Nat) (p : Bool) : (uCells node run seq m p).all (·.oneCell') = true := by
  simp [uCells, Value.oneCell']
def zeroU : Array Value := #[.string ⟨#[]⟩, .string ⟨#[]⟩, .int .u64 0, .int .u64 0, .map none, .int .u64 0, .bool false, .int .u64 0, .string ⟨#[]⟩, .slice none 0 0, .bool false, .pointer none]

theorem since_setRow {B : Nat} {w w' : World} (h : w.Since B w') {g : Nat} (hg : B ≤ g) (cs : Array Value) : w.Since B (w'.setRow g cs) :=
  ⟨h.os, h.tape, h.output, by simp [World.setRow]; exact h.size, fun k hk => by rw [setRow_other _ _ _ _ (by omega)]; exact h.block k hk⟩

/-- The result out of the cell that holds it. -/
theorem ucell {w : World} {g : Nat} {cs : Array Value} {t : TypeId} {fr : Nat × Nat} (h : w.heap[g]? = some (.cells cs t fr)) (j : Nat) : w.cell? ⟨g, j, none⟩ = cs[j]? := cell_of_row w g j cs t fr h

theorem results_cell {P : Program} {fn : Func} {tmps : Array Value} {k : Nat} {t : TypeId} {a : Addr} {v : Value} {w : World} (hr : fn.results = #[.cell k t]) (ht : tmps.getD k undef = .pointer (some a)) (hl : (loadVar t a).run P w = .ok v w) :
    (results fn tmps).run P w = .ok v w := by
  have ht' : tmps[k]?.getD undef = .pointer (some a) := by simpa using ht
  simp [results, hr, ht', hl, asAddr]

theorem at4 (w : World) (o1 o2 o3 o4 : Obj) : ((((w.alloc o1).alloc o2).alloc o3).alloc o4).heap[w.heap.size]? = some o1 ∧ ((((w.alloc o1).alloc o2).alloc o3).alloc o4).heap[w.heap.size + 1]? = some o2 ∧
    ((((w.alloc o1).alloc o2).alloc o3).alloc o4).heap[w.heap.size + 1 + 1]? = some o3 ∧ ((((w.alloc o1).alloc o2).alloc o3).alloc o4).heap[w.heap.size + 1 + 1 + 1]? = some o4 ∧ w.Since w.heap.size ((((w.alloc o1).alloc o2).alloc o3).alloc o4) ∧ ((((w.alloc o1).alloc o2).alloc o3).alloc o4).heap.size = w.heap.size + 4 := by
  refine ⟨?_, ?_, ?_, ?_, (((((World.Since.refl w.heap.size w).alloc (Nat.le_refl _) _).alloc (by simp) _).alloc (by simp; omega) _).alloc (by simp; omega) _), by simp⟩
  · show ((((w.heap.push o1).push o2).push o3).push o4)[w.heap.size]? = _
    rw [Array.getElem?_push, if_neg (by first | (simp; done) | (simp; omega)), Array.getElem?_push, if_neg (by first | (simp; done) | (simp; omega)), Array.getElem?_push, if_neg (by simp), Array.getElem?_push, if_pos rfl]
  · show ((((w.heap.push o1).push o2).push o3).push o4)[w.heap.size + 1]? = _
    rw [Array.getElem?_push, if_neg (by first | (simp; done) | (simp; omega)), Array.getElem?_push, if_neg (by simp), Array.getElem?_push, if_pos (by simp)]
  · show ((((w.heap.push o1).push o2).push o3).push o4)[w.heap.size + 1 + 1]? = _
    rw [Array.getElem?_push, if_neg (by simp), Array.getElem?_push, if_pos (by simp)]
  · show ((((w.heap.push o1).push o2).push o3).push o4)[w.heap.size + 1 + 1 + 1]? = _
    rw [Array.getElem?_push, if_pos (by simp)]

theorem after4 {w w1 : World} {o1 o2 o3 o4 : Obj} (hs : ((((w.alloc o1).alloc o2).alloc o3).alloc o4).Since ((((w.alloc o1).alloc o2).alloc o3).alloc o4).heap.size w1) :
    w1.heap[w.heap.size]? = some o1 ∧ w1.heap[w.heap.size + 1]? = some o2 ∧ w1.heap[w.heap.size + 1 + 1]? = some o3 ∧ w1.heap[w.heap.size + 1 + 1 + 1]? = some o4 ∧ w.Since w.heap.size w1 := by
  obtain ⟨h1, h2, h3, h4, h5, h6⟩ := at4 w o1 o2 o3 o4
  rw [h6] at hs
  exact ⟨(hs.block _ (by omega)).trans h1, (hs.block _ (by omega)).trans h2, (hs.block _ (by omega)).trans h3, (hs.block _ (by omega)).trans h4, h5.trans (since_mono hs (by omega))⟩

theorem alloc2 (w : World) (o1 o2 : Obj) : w.Since w.heap.size ((w.alloc o1).alloc o2) := ((World.Since.refl w.heap.size w).alloc (Nat.le_refl _) _).alloc (by simp) _
theorem alloc1 (w : World) (o1 : Obj) : w.Since w.heap.size (w.alloc o1) := ((World.Since.refl w.heap.size w).alloc (Nat.le_refl _) _)

set_option maxRecDepth 100000 in
set_option maxHeartbeats 1000000 in
theorem sent_nil (s : Value) (node : ByteArray) (run seq : Int) (m : Option Nat) (p : Bool) (w : World) :
    Calls Try.prog 34 #[s, uVal node run seq m p, .nilFunc] w fun e w' => e = .returned (uVal node run seq m p) ∧ w.Since w.heap.size w' := by
  have hnf : ∀ W : World, (binOp BinOp.eql 85 Value.nilFunc Value.nilFunc).run Try.prog W = .ok (.bool true) W := fun W => by kernel_rfl
  unfold uVal uCells
  go_enter Try.func34, Try.ntmps34
  go_wp2_with fail
  refine bodyPost_ret (v := .agg (uCells node run seq m p)) (by simp [results, Try.results34, go_sem, uCells]) rfl ⟨rfl, alloc2 w _ _⟩

theorem run_makeMap67 (w : World) : (Instr.makeMap 67 none).run Try.prog w = .ok (.map (some w.heap.size)) (w.alloc (.map #[] 0)) := by
  simp [Instr.makeMap]
theorem run_makeMap31 (n : Nat) (w : World) : (Instr.makeMap 31 (some (.int .i64 (n : Int)))).run Try.prog w = .ok (.map (some w.heap.size)) (w.alloc (.map #[] 0)) := by
  simp [Instr.makeMap, asInt, asIntOf, Result.andThen]
theorem run_makeFunc35 (b : Nat) (w : World) : (Instr.makeFunc (.func 35) #[] #[.pointer (some ⟨b, 0, none⟩)]).run Try.prog w = .ok (.func (.func 35) #[] #[.pointer (some ⟨b, 0, none⟩)]) w := rfl
theorem func_nil (b : Nat) (w : World) : (binOp BinOp.eql 85 (.func (.func 35) #[] #[.pointer (some ⟨b, 0, none⟩)]) Value.nilFunc).run Try.prog w = .ok (.bool false) w := by kernel_rfl

/-- The closure: a count is settled when it is at most the limit. -/
theorem below1 (x : Org) (n lim : Int) (lb : Nat) (w : World) (hl : w.cell? ⟨lb, 0, none⟩ = some (.int .u64 lim)) :
    Calls Try.prog 35 #[.agg #[.string x.1, .int .u64 x.2], .int .u64 n, .agg #[.int .u64 0, .int .i64 0, .pointer none], .pointer (some ⟨lb, 0, none⟩)] w fun e w' => e = .returned (.bool (decide (n ≤ lim))) ∧ w.Since w.heap.size w' := by
  have hlt := cell_blk hl
  go_enter Try.func35, Try.ntmps35
  by_cases h : n ≤ lim
  · go_wp2_with fail
    go_ret
    exact ⟨by simp [h], alloc2 w _ _⟩
  · go_wp2_with fail
    go_ret
    exact ⟨by simp [h], alloc2 w _ _⟩

set_option maxRecDepth 100000 in
set_option maxHeartbeats 1000000 in
theorem zz_nil (node : ByteArray) (run seq : Int) (m : Option Nat) (p : Bool) (w : World) :
    Calls Try.prog 29 #[uVal node run seq m p] w fun e w' => e = .returned (uVal node run seq m p) ∧ w.Since w.heap.size w' := by
  have hmm := run_makeMap67
  unfold uVal uCells
  go_enter Try.func29, Try.ntmps29
  go_wp2_with fail
  refine (sent_nil _ node run seq m p _).mono ?_
  rintro e w1 ⟨rfl, hs⟩
  clear hmm
  obtain ⟨_, hg, _, _, hB⟩ := after4 hs
  have HG : Hid (w1.heap[w.heap.size + 1]? = some (.cells zeroU 33 (0, 0))) := hg
  clear hg hs
  unfold uVal
  generalize huc : uCells node run seq m p = U
  have HU : Hid (uCells node run seq m p = U) := huc
  clear huc
  go_wp2_with (first | (refine wpList_store_row rfl 33 _ _ rfl (w.heap.size + 1) U rfl rfl 33 zeroU HG.out (by rw [← HU.out]; exact size33 _ _ _ _ _) (by rw [← HU.out]; rfl) (by rw [← HU.out]; exact one33 _ _ _ _ _) ?_))
  have hl : (loadVar 33 ⟨w.heap.size + 1, 0, none⟩).run Try.prog (w1.setRow (w.heap.size + 1) U) = .ok (.agg U) (w1.setRow (w.heap.size + 1) U) :=
    run_loadVar_row _ _ 33 33 U (0, 0) _ (setRow_heap _ _ zeroU _ 33 (0, 0) HG.out) Try.underlying33 rfl (by rw [← HU.out]; exact size33 _ _ _ _ _)
  refine bodyPost_ret (v := .agg U) (results_cell Try.results29 rfl hl) rfl ⟨by rw [← HU.out]; rfl, since_setRow hB (by omega) _⟩
end Go.Proofs.Qxb6618715a
