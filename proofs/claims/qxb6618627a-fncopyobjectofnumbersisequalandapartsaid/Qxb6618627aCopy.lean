/-
  THE WALKS OF flow.Copy (function 19) AND ZZB1Copy (function 7).
-/
import Derived.Test.Qxb6618627aProg
import Derived.WalkKit
import Derived.WalkLawsBesides
import Derived.WalkSpells
import Derived.Deep.LoopGhost
import Derived.Deep.OwnRows
import Derived.Deep.Light
namespace Go.Proofs.Qxb6618627a
open Go.RowKit

theorem Try.info20 : (Try.prog.info? 20).map (fun i => (i.zero, i.size, i.bytes)) = some (some .nilIface, 1, 16) := by kernel_rfl

/-! ### What the type tests answer, off the program's tables -/
theorem ta9_49 (x : Value) (w : World) : (Instr.typeAssert (.iface 9 x) 20 49 true).run Try.prog w = .ok (.tuple #[.map none, .bool false]) w := by kernel_rfl
theorem ta9_50 (x : Value) (w : World) : (Instr.typeAssert (.iface 9 x) 20 50 true).run Try.prog w = .ok (.tuple #[.slice none 0 0, .bool false]) w := by kernel_rfl
theorem ta9_9 (x : Value) (w : World) : (Instr.typeAssert (.iface 9 x) 20 9 true).run Try.prog w = .ok (.tuple #[x, .bool true]) w := by kernel_rfl
theorem ta50_49 (x : Value) (w : World) : (Instr.typeAssert (.iface 50 x) 20 49 true).run Try.prog w = .ok (.tuple #[.map none, .bool false]) w := by kernel_rfl
theorem ta50_50 (x : Value) (w : World) : (Instr.typeAssert (.iface 50 x) 20 50 true).run Try.prog w = .ok (.tuple #[x, .bool true]) w := by kernel_rfl

attribute [local go_sem] ta9_49 ta9_50 ta9_9 ta50_49 ta50_50

set_option maxHeartbeats 400000 in
theorem copy_string (s : ByteArray) (w : World) :
    Calls Try.prog 19 #[.iface 9 (.string s)] w fun e w' => e = .returned (.iface 9 (.string s)) ∧ w' = w := by
  go_enter Try.func19, Try.ntmps19
  go_wp2_with fail
  go_ret
  exact ⟨rfl, rfl⟩


/-- A value that Copy hands back as it is. -/
def Leaf (v : Value) : Prop := ∀ w : World, Calls Try.prog 19 #[v] w fun e w' => e = .returned v ∧ w' = w

theorem leaf_string (s : ByteArray) : Leaf (.iface 9 (.string s)) := fun w => copy_string s w

/-- What holds at the head of Copy's loop over a row of leaves, k of them copied. -/
structure RowAt (w wr : World) (n : Nat) (f : Nat → Value) (k : Nat) : Prop where
  since : w.Since w.heap.size wr
  size : wr.heap.size = w.heap.size + 1
  row : wr.rowIs w.heap.size 20 n (fun j => if j < k then f j else .nilIface)

theorem rowAt_start (w : World) (n : Nat) (f : Nat → Value) : RowAt w (w.alloc (.cells (madeCells #[.nilIface] n) 20)) n f 0 :=
  ⟨(World.Since.refl _ _).alloc (Nat.le_refl _) _, by simp, (World.rowIs_made w _ n 20).congr (fun j _ => by simp)⟩

theorem rowAt_step {w wr : World} {n : Nat} {f : Nat → Value} {k : Nat} (h : RowAt w wr n f k) : RowAt w (wr.setCell ⟨w.heap.size, k, none⟩ (f k)) n f (k + 1) := by
  refine ⟨h.since.setCell (Nat.le_refl _) _, by simp [h.size], (h.row.set k _).congr (fun j _ => ?_)⟩
  by_cases e : j = k
  · subst e; simp
  · rw [if_neg e]
    by_cases hlt : j < k
    · rw [if_pos hlt, if_pos (by omega)]
    · rw [if_neg hlt, if_neg (by omega)]

set_option maxHeartbeats 400000 in
theorem copy_row (b n : Nat) (T : Nat → TypeId) (V : Nat → Value) (w : World) (hn : n ≤ 1048576) (hrow : w.rowIs b 20 n (fun i => .iface (T i) (V i))) (hf : ∀ i, i < n → Leaf (.iface (T i) (V i))) :
    Calls Try.prog 19 #[.iface 50 (.slice (some ⟨b, 0, none⟩) n n)] w fun e w' => e = .returned (.iface 50 (.slice (some ⟨w.heap.size, 0, none⟩) n n)) ∧ RowAt w w' n (fun i => .iface (T i) (V i)) n := by
  have hmk := run_make_row' (P := Try.prog) 50 20 .nilIface 16 Try.underlying50 Try.info20 rfl .i64 .i64 n (by omega) (by omega)
  go_enter Try.func19, Try.ntmps19
  go_wp2_with fail
  clear hmk
  go_loopg [39] n (fun g i wr => ∃ k : Nat, k ≤ n ∧ g = n - k ∧ i = .int .i64 k ∧ RowAt w wr n (fun i => .iface (T i) (V i)) k)
  case atStart => exact ⟨0, Nat.zero_le _, rfl, rfl, rowAt_start w n _⟩
  case round =>
    obtain ⟨k, hk, rfl, rfl, hO⟩ := hrel
    by_cases hkn : k < n
    · have hz : (k : Int) < (n : Int) := by omega
      have hb : b < w.heap.size := hrow.lt
      have g0 : wr.cell? ⟨b, k, none⟩ = some (.iface (T k) (V k)) := by rw [hO.since.cell (a := ⟨b, k, none⟩) hb]; exact hrow.cell hkn
      have g1 := hO.row.cell hkn
      have g2 := hO.row.frozen k
      simp only [Nat.lt_irrefl, if_false] at g1
      have hl := hf k hkn
      go_wp2_with (go_at_call 19; refine (hl _).mono ?_; rintro e w' ⟨rfl, rfl⟩)
      go_roundg (n - (k + 1))
      case measure => go_light; omega
      case rel => go_light; exact ⟨k + 1, by omega, rfl, by go_num, rowAt_step hO⟩
    · obtain rfl : k = n := by omega
      go_wp2_with fail
      go_ret
      exact ⟨rfl, hO⟩

/-! ### An array of arrays of strings in memory: its own row at block t, row r at block t + 1 + r -/
def topOf (t : Nat) (L : Nat → Nat) (r : Nat) : Value := .iface 50 (.slice (some ⟨t + 1 + r, 0, none⟩) (L r) (L r))
def rowOf (S : Nat → Nat → ByteArray) (r c : Nat) : Value := .iface 9 (.string (S r c))

structure Arr (w : World) (t G : Nat) (L : Nat → Nat) (S : Nat → Nat → ByteArray) : Prop where
  top : w.rowIs t 20 G (topOf t L)
  row : ∀ r, r < G → w.rowIs (t + 1 + r) 20 (L r) (rowOf S r)

/-- While Copy goes over the rows: k of them copied; the copy's own row is block w.heap.size. -/
structure ArrAt (w wr : World) (G : Nat) (L : Nat → Nat) (S : Nat → Nat → ByteArray) (k : Nat) : Prop where
  since : w.Since w.heap.size wr
  size : wr.heap.size = w.heap.size + 1 + k
  top : wr.rowIs w.heap.size 20 G (fun j => if j < k then topOf w.heap.size L j else .nilIface)
  row : ∀ r, r < k → wr.rowIs (w.heap.size + 1 + r) 20 (L r) (rowOf S r)

theorem arrAt_start (w : World) (G : Nat) (L : Nat → Nat) (S : Nat → Nat → ByteArray) : ArrAt w (w.alloc (.cells (madeCells #[.nilIface] G) 20)) G L S 0 :=
  ⟨(World.Since.refl _ _).alloc (Nat.le_refl _) _, by simp, (World.rowIs_made w _ G 20).congr (fun j _ => by simp), fun r hr => absurd hr (Nat.not_lt_zero _)⟩

theorem arrAt_step {w wr w' : World} {G : Nat} {L : Nat → Nat} {S : Nat → Nat → ByteArray} {k : Nat} (h : ArrAt w wr G L S k) (hr : RowAt wr w' (L k) (rowOf S k) (L k)) :
    ArrAt w (w'.setCell ⟨w.heap.size, k, none⟩ (topOf w.heap.size L k)) G L S (k + 1) := by
  have hs := h.size
  have hblk : ∀ i, i < w.heap.size + 1 + k → w'.heap[i]? = wr.heap[i]? := fun i hi => hr.since.block i (by omega)
  refine ⟨(h.since.trans (⟨hr.since.os, hr.since.tape, hr.since.output, hr.since.size, fun i hi => hblk i (by omega)⟩)).setCell (Nat.le_refl _) _, by simp [hr.size, hs]; omega, ?_, fun r hrk => ?_⟩
  · refine ((h.top.of_block (hblk _ (by omega))).set k _).congr (fun j _ => ?_)
    by_cases e : j = k
    · subst e; simp
    · rw [if_neg e]
      by_cases hlt : j < k
      · rw [if_pos hlt, if_pos (by omega)]
      · rw [if_neg hlt, if_neg (by omega)]
  · refine World.rowIs.setOther ?_ (by show w.heap.size + 1 + r ≠ w.heap.size; omega) _
    by_cases e : r = k
    · subst e
      have := hr.row
      rw [hs] at this
      exact this.congr (fun i hi => by rw [if_pos hi])
    · exact (h.row r (by omega)).of_block (hblk _ (by omega))

theorem arrAt_done {w wr : World} {G : Nat} {L : Nat → Nat} {S : Nat → Nat → ByteArray} (h : ArrAt w wr G L S G) : Arr wr w.heap.size G L S :=
  ⟨h.top.congr (fun j hj => by rw [if_pos hj]), h.row⟩

set_option maxHeartbeats 400000 in
theorem copy_arr (t G : Nat) (L : Nat → Nat) (S : Nat → Nat → ByteArray) (w : World) (hn : G ≤ 1048576) (hL : ∀ r, r < G → L r ≤ 1048576) (hA : Arr w t G L S) :
    Calls Try.prog 19 #[.iface 50 (.slice (some ⟨t, 0, none⟩) G G)] w fun e w' => e = .returned (.iface 50 (.slice (some ⟨w.heap.size, 0, none⟩) G G)) ∧ ArrAt w w' G L S G := by
  have hmk := run_make_row' (P := Try.prog) 50 20 .nilIface 16 Try.underlying50 Try.info20 rfl .i64 .i64 G (by omega) (by omega)
  go_enter Try.func19, Try.ntmps19
  go_wp2_with fail
  clear hmk
  go_loopg [39] G (fun g i wr => ∃ k : Nat, k ≤ G ∧ g = G - k ∧ i = .int .i64 k ∧ ArrAt w wr G L S k)
  case atStart => exact ⟨0, Nat.zero_le _, rfl, rfl, arrAt_start w G L S⟩
  case round =>
    obtain ⟨k, hk, rfl, rfl, hO⟩ := hrel
    by_cases hkn : k < G
    · have hz : (k : Int) < (G : Int) := by omega
      have hb : t < w.heap.size := hA.top.lt
      have hb' : t + 1 + k < w.heap.size := (hA.row k hkn).lt
      have g0 : wr.cell? ⟨t, k, none⟩ = some (.iface 50 (.slice (some ⟨t + 1 + k, 0, none⟩) (L k) (L k))) := by rw [hO.since.cell (a := ⟨t, k, none⟩) hb]; exact hA.top.cell hkn
      have gr : wr.rowIs (t + 1 + k) 20 (L k) (rowOf S k) := (hA.row k hkn).of_block (hO.since.block _ hb')
      have GR : Hid (wr.rowIs (t + 1 + k) 20 (L k) (rowOf S k)) := gr
      have hLk := hL k hkn
      clear gr hL
      go_wp2_with fail
      refine (copy_row (t + 1 + k) (L k) (fun _ => 9) (fun c => .string (S k c)) wr hLk GR.out (fun i _ => leaf_string _)).mono ?_
      rintro e w' ⟨rfl, hR⟩
      have hs := hO.size
      have hblk : w'.heap[w.heap.size]? = wr.heap[w.heap.size]? := hR.since.block _ (by omega)
      have g1 : w'.cell? ⟨w.heap.size, k, none⟩ = some .nilIface := by
        have := (hO.top.of_block hblk).cell hkn
        simpa using this
      have g2 := (hO.top.of_block hblk).frozen k
      clear hblk
      have HS : Hid (wr.heap.size = w.heap.size + 1 + k) := hs
      clear hs
      go_wp2_with fail
      go_roundg (G - (k + 1))
      case measure => go_light; omega
      case rel =>
        go_light
        refine ⟨k + 1, by omega, rfl, by go_num, ?_⟩
        rw [HS.out]
        exact arrAt_step hO hR
    · obtain rfl : k = G := by omega
      go_wp2_with fail
      go_ret
      exact ⟨rfl, hO⟩

/-! ### Small facts -/
theorem Arr.of_since {w w' : World} {t G B : Nat} {L : Nat → Nat} {S : Nat → Nat → ByteArray} (h : Arr w t G L S) (hs : w.Since B w') (hB : t + 1 + G ≤ B) : Arr w' t G L S :=
  ⟨h.top.of_block (hs.block _ (by omega)), fun r hr => (h.row r hr).of_block (hs.block _ (by omega))⟩
theorem Arr.alloc {w : World} {t G : Nat} {L : Nat → Nat} {S : Nat → Nat → ByteArray} (h : Arr w t G L S) (o : Obj) : Arr (w.alloc o) t G L S :=
  ⟨h.top.alloc o, fun r hr => (h.row r hr).alloc o⟩
theorem Arr.setOther {w : World} {t G : Nat} {L : Nat → Nat} {S : Nat → Nat → ByteArray} (h : Arr w t G L S) {a : Addr} (ha : a.block < t ∨ t + 1 + G ≤ a.block) (v : Value) : Arr (w.setCell a v) t G L S :=
  ⟨h.top.setOther (by omega) v, fun r hr => (h.row r hr).setOther (by omega) v⟩
theorem since_mono {B B' : Nat} {w w' : World} (h : w.Since B w') (hB : B' ≤ B) : w.Since B' w' := ⟨h.os, h.tape, h.output, h.size, fun k hk => h.block k (Nat.lt_of_lt_of_le hk hB)⟩

/-! ### ZZB1Copy: the value in its struct -/
set_option maxHeartbeats 400000 in
theorem zcopy_arr (t G : Nat) (L : Nat → Nat) (S : Nat → Nat → ByteArray) (w : World) (hn : G ≤ 1048576) (hL : ∀ r, r < G → L r ≤ 1048576) (hA : Arr w t G L S) :
    Calls Try.prog 7 #[.agg #[.iface 50 (.slice (some ⟨t, 0, none⟩) G G)]] w fun e w' => e = .returned (.agg #[.iface 50 (.slice (some ⟨w.heap.size + 2, 0, none⟩) G G)]) ∧
      w.Since w.heap.size w' ∧ Arr w' (w.heap.size + 2) G L S ∧ w'.heap.size = w.heap.size + 2 + 1 + G := by
  go_enter Try.func7, Try.ntmps7
  go_wp2_with fail
  refine (copy_arr t G L S _ hn hL ((hA.alloc _).alloc _)).mono ?_
  generalize hW : (w.alloc (Obj.cells #[Value.iface 50 (Value.slice (some { block := t, off := 0 }) G G)] 30)).alloc (Obj.cells #[Value.nilIface] 30) = W
  have hsz : W.heap.size = w.heap.size + 2 := by rw [← hW]; simp
  have hc : W.cell? ⟨w.heap.size + 1, 0, none⟩ = some .nilIface := by rw [← hW]; simp [go_sem]
  have hfz : W.frozen? ⟨w.heap.size + 1, 0, none⟩ = false := by rw [← hW]; simp [go_sem]
  have hsi : w.Since w.heap.size W := by rw [← hW]; exact ((World.Since.refl _ _).alloc (Nat.le_refl _) _).alloc (by simp) _
  clear hW
  rintro e w' ⟨rfl, hR⟩
  have g1 : w'.cell? ⟨w.heap.size + 1, 0, none⟩ = some .nilIface := by rw [hR.since.cell (a := ⟨w.heap.size + 1, 0, none⟩) (by show w.heap.size + 1 < _; omega)]; exact hc
  have g2 : w'.frozen? ⟨w.heap.size + 1, 0, none⟩ = false := by rw [hR.since.frozen (a := ⟨w.heap.size + 1, 0, none⟩) (by show w.heap.size + 1 < _; omega)]; exact hfz
  have h1 := hR.size
  have h2 := arrAt_done hR
  have h3 := hsi.trans (since_mono hR.since (by omega : w.heap.size ≤ W.heap.size))
  rw [hsz] at h1 h2 ⊢
  clear hc hfz hsz hsi hR
  have H1 : Hid (w'.heap.size = w.heap.size + 2 + 1 + G) := h1
  clear h1
  go_wp2_with fail
  refine bodyPost_ret (v := .agg #[.iface 50 (.slice (some ⟨w.heap.size + 2, 0, none⟩) G G)]) (by simp [results, Try.results7, go_sem, g1]) rfl ⟨rfl, h3.setCell (by show w.heap.size ≤ w.heap.size + 1; omega) _, h2.setOther (Or.inl (by show w.heap.size + 1 < _; omega)) _, ?_⟩
  simpa using H1.out
end Go.Proofs.Qxb6618627a
