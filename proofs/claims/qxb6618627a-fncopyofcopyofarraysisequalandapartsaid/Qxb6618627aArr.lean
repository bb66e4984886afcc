/-
  THE WALKS OF ZZB1ArrayOfStrings (15), ZZB1ArrayLen (21), ZZB1StringsAt (18), ZZB1SetStringAt (17).
-/
import Derived.Test.Qxb6618627aCopy
namespace Go.Proofs.Qxb6618627a
open Go.RowKit
set_option linter.unusedVariables false
attribute [local go_sem] ta9_49 ta9_50 ta9_9 ta50_49 ta50_50

/-! ### The argument: a slice of slices of strings that came in -/
structure Inp (w : World) (ga : Option Addr) (gb go G : Nat) (A : Nat → Option Addr) (L C RB RO : Nat → Nat) (S : Nat → Nat → ByteArray) : Prop where
  ga : 0 < G → ga = some ⟨gb, go, none⟩
  row : ∀ r, r < G → w.cell? ⟨gb, go + r, none⟩ = some (.slice (A r) (L r) (C r))
  cell : ∀ r, r < G → ∀ c, c < L r → A r = some ⟨RB r, RO r, none⟩ ∧ w.cell? ⟨RB r, RO r + c, none⟩ = some (.string (S r c))

theorem Inp.since {w w' : World} {ga : Option Addr} {gb go G : Nat} {A : Nat → Option Addr} {L C RB RO : Nat → Nat} {S : Nat → Nat → ByteArray} (h : Inp w ga gb go G A L C RB RO S) (hs : w.Since w.heap.size w') : Inp w' ga gb go G A L C RB RO S :=
  ⟨h.ga, fun r hr => by rw [hs.cell (a := ⟨gb, go + r, none⟩) (World.block_lt_of_cell? _ _ (h.row r hr))]; exact h.row r hr,
   fun r hr c hc => ⟨(h.cell r hr c hc).1, by rw [hs.cell (a := ⟨RB r, RO r + c, none⟩) (World.block_lt_of_cell? _ _ (h.cell r hr c hc).2)]; exact (h.cell r hr c hc).2⟩⟩

/-! ### ZZB1ArrayOfStrings -/
structure MkOuter (w wr : World) (G : Nat) (L : Nat → Nat) (S : Nat → Nat → ByteArray) (r : Nat) : Prop where
  since : w.Since w.heap.size wr
  size : wr.heap.size = w.heap.size + 2 + r
  res : wr.rowIs w.heap.size 30 1 (fun _ => .nilIface)
  top : wr.rowIs (w.heap.size + 1) 20 G (fun j => if j < r then topOf (w.heap.size + 1) L j else .nilIface)
  row : ∀ j, j < r → wr.rowIs (w.heap.size + 1 + 1 + j) 20 (L j) (rowOf S j)
structure MkInner (w wi : World) (G : Nat) (L : Nat → Nat) (S : Nat → Nat → ByteArray) (r c : Nat) : Prop where
  since : w.Since w.heap.size wi
  size : wi.heap.size = w.heap.size + 2 + r + 1
  res : wi.rowIs w.heap.size 30 1 (fun _ => .nilIface)
  top : wi.rowIs (w.heap.size + 1) 20 G (fun j => if j < r then topOf (w.heap.size + 1) L j else .nilIface)
  row : ∀ j, j < r → wi.rowIs (w.heap.size + 1 + 1 + j) 20 (L j) (rowOf S j)
  cur : wi.rowIs (w.heap.size + 1 + 1 + r) 20 (L r) (fun i => if i < c then rowOf S r i else .nilIface)

theorem mkOuter_start (w : World) (G : Nat) (L : Nat → Nat) (S : Nat → Nat → ByteArray) : MkOuter w ((w.alloc (.cells #[.nilIface] 30)).alloc (.cells (madeCells #[.nilIface] G) 20)) G L S 0 := by
  have e : (w.alloc (.cells #[.nilIface] 30)).heap.size = w.heap.size + 1 := by simp
  have h1 := World.rowIs_made (w.alloc (.cells #[.nilIface] 30)) .nilIface G 20
  rw [e] at h1
  refine ⟨((World.Since.refl _ _).alloc (Nat.le_refl _) _).alloc (by simp) _, by simp, (World.rowIs_alloc w #[.nilIface] 30 (fun _ => .nilIface) ?_).alloc _, h1.congr (fun j _ => by simp), fun j hj => absurd hj (Nat.not_lt_zero _)⟩
  intro i hi
  have : i = 0 := by simp at hi; omega
  subst this; rfl

theorem mkInner_start {w wr : World} {G : Nat} {L : Nat → Nat} {S : Nat → Nat → ByteArray} {r : Nat} (h : MkOuter w wr G L S r) : MkInner w (wr.alloc (.cells (madeCells #[.nilIface] (L r)) 20)) G L S r 0 := by
  have hnew := World.rowIs_made wr .nilIface (L r) 20
  have hs := h.size
  rw [hs, show w.heap.size + 2 + r = w.heap.size + 1 + 1 + r by omega] at hnew
  exact ⟨h.since.alloc (by omega) _, by simp [hs], h.res.alloc _, h.top.alloc _, fun j hj => (h.row j hj).alloc _, hnew.congr (fun i _ => by simp)⟩

theorem mkInner_step {w wi : World} {G : Nat} {L : Nat → Nat} {S : Nat → Nat → ByteArray} {r c : Nat} (h : MkInner w wi G L S r c) :
    MkInner w (wi.setCell ⟨w.heap.size + 1 + 1 + r, c, none⟩ (rowOf S r c)) G L S r (c + 1) := by
  refine ⟨h.since.setCell (by show w.heap.size ≤ w.heap.size + 1 + 1 + r; omega) _, by simp [h.size], h.res.setOther (by show w.heap.size ≠ w.heap.size + 1 + 1 + r; omega) _, h.top.setOther (by show w.heap.size + 1 ≠ w.heap.size + 1 + 1 + r; omega) _,
    fun j hj => (h.row j hj).setOther (by show w.heap.size + 1 + 1 + j ≠ w.heap.size + 1 + 1 + r; omega) _, (h.cur.set c _).congr (fun i _ => ?_)⟩
  by_cases e : i = c
  · subst e; simp
  · rw [if_neg e]
    by_cases hlt : i < c
    · rw [if_pos hlt, if_pos (by omega)]
    · rw [if_neg hlt, if_neg (by omega)]

theorem mkInner_done {w wi : World} {G : Nat} {L : Nat → Nat} {S : Nat → Nat → ByteArray} {r : Nat} (h : MkInner w wi G L S r (L r)) :
    MkOuter w (wi.setCell ⟨w.heap.size + 1, r, none⟩ (topOf (w.heap.size + 1) L r)) G L S (r + 1) := by
  refine ⟨h.since.setCell (by show w.heap.size ≤ w.heap.size + 1; omega) _, by simp [h.size]; omega, h.res.setOther (by show w.heap.size ≠ w.heap.size + 1; omega) _, (h.top.set r _).congr (fun j _ => ?_), fun j hj => ?_⟩
  · by_cases e : j = r
    · subst e; simp
    · rw [if_neg e]
      by_cases hlt : j < r
      · rw [if_pos hlt, if_pos (by omega)]
      · rw [if_neg hlt, if_neg (by omega)]
  · refine World.rowIs.setOther ?_ (by show w.heap.size + 1 + 1 + j ≠ w.heap.size + 1; omega) _
    by_cases e : j = r
    · subst e
      exact h.cur.congr (fun i hi => by rw [if_pos hi])
    · exact h.row j (by omega)

theorem mkOuter_done {w wr : World} {G : Nat} {L : Nat → Nat} {S : Nat → Nat → ByteArray} (h : MkOuter w wr G L S G) : Arr wr (w.heap.size + 1) G L S :=
  ⟨h.top.congr (fun j hj => by rw [if_pos hj]), h.row⟩

set_option maxHeartbeats 1000000 in
theorem mk_arr (ga : Option Addr) (gb go G Gc : Nat) (A : Nat → Option Addr) (L C RB RO : Nat → Nat) (S : Nat → Nat → ByteArray) (w : World) (hn : G ≤ 1048576) (hL : ∀ r, r < G → L r ≤ 1048576) (hI : Inp w ga gb go G A L C RB RO S) :
    Calls Try.prog 15 #[.slice ga G Gc] w fun e w' => e = .returned (.agg #[.iface 50 (.slice (some ⟨w.heap.size + 1, 0, none⟩) G G)]) ∧
      w.Since w.heap.size w' ∧ Arr w' (w.heap.size + 1) G L S ∧ w'.heap.size = w.heap.size + 2 + G := by
  have hmk := run_make_row' (P := Try.prog) 50 20 .nilIface 16 Try.underlying50 Try.info20 rfl .i64 .i64 G (by omega) (by omega)
  go_enter Try.func15, Try.ntmps15
  go_wp2_with fail
  clear hmk
  go_loopg [4] G (fun g i wr => ∃ r : Nat, r ≤ G ∧ g = G - r ∧ i = .int .i64 r ∧ MkOuter w wr G L S r)
  case atStart => exact ⟨0, Nat.zero_le _, rfl, rfl, mkOuter_start w G L S⟩
  case round =>
    obtain ⟨r, hr, rfl, rfl, hO⟩ := hrel
    by_cases hrG : r < G
    · obtain rfl := hI.ga (by omega)
      have hrz : (r : Int) < (G : Int) := by omega
      have hLr := hL r hrG
      have HIr := hI.since hO.since
      have g0 := HIr.row r hrG
      have hmk := run_make_row' (P := Try.prog) 50 20 .nilIface 16 Try.underlying50 Try.info20 rfl .i64 .i64 (L r) (by omega) (by omega)
      have HS : Hid (wr.heap.size = w.heap.size + 1 + 1 + r) := by show wr.heap.size = w.heap.size + 1 + 1 + r; rw [hO.size]
      clear HIr
      go_wp2_with fail
      have hI0 := mkInner_start hO
      clear hmk hO g0
      rw [HS.out]
      go_loopg [6] (L r) (fun g i wi => ∃ c : Nat, c ≤ L r ∧ g = L r - c ∧ i = .int .i64 c ∧ MkInner w wi G L S r c)
      case atStart => exact ⟨0, Nat.zero_le _, rfl, rfl, hI0⟩
      case round =>
        clear hI0 HS
        obtain ⟨c, hc, rfl, rfl, hN⟩ := hrel
        have HIr := hI.since hN.since
        have g0 := HIr.row r hrG
        by_cases hcL : c < L r
        · have hcz : (c : Int) < (L r : Int) := by omega
          have g1 := (HIr.cell r hrG c hcL).2
          rw [(HIr.cell r hrG c hcL).1] at g0
          have g3 := hN.cur.cell hcL
          have g4 := hN.cur.frozen c
          simp only [Nat.lt_irrefl, if_false] at g3
          clear HIr
          go_wp2_with fail
          go_roundg (L r - (c + 1))
          case measure => go_light; omega
          case rel => go_light; exact ⟨c + 1, by omega, rfl, by go_num, mkInner_step hN⟩
        · obtain rfl : c = L r := by omega
          have g3 := hN.top.cell hrG
          have g4 := hN.top.frozen r
          simp only [Nat.lt_irrefl, if_false] at g3
          clear HIr
          go_wp2_with fail
          go_roundg (G - (r + 1))
          case measure => go_light; omega
          case rel => go_light; exact ⟨r + 1, by omega, rfl, by go_num, mkInner_done hN⟩
    · obtain rfl : r = G := by omega
      have g1 := hO.res.cell (i := 0) (by omega)
      have g2 := hO.res.frozen 0
      go_wp2_with fail
      refine bodyPost_ret (v := .agg #[.iface 50 (.slice (some ⟨w.heap.size + 1, 0, none⟩) r r)]) (by simp [results, Try.results15, go_sem, g1]) rfl ⟨rfl, hO.since.setCell (Nat.le_refl _) _, (mkOuter_done hO).setOther (Or.inl (by show w.heap.size < _; omega)) _, ?_⟩
      simpa using hO.size


/-! ### ZZB1ArrayLen -/
set_option maxHeartbeats 400000 in
theorem arr_len (t G : Nat) (w : World) :
    Calls Try.prog 21 #[.agg #[.iface 50 (.slice (some ⟨t, 0, none⟩) G G)]] w fun e w' => e = .returned (.tuple #[.int .i64 G, .bool true]) ∧ w' = w.alloc (.cells #[.iface 50 (.slice (some ⟨t, 0, none⟩) G G)] 30) := by
  go_enter Try.func21, Try.ntmps21
  go_wp2_with fail
  go_ret2
  exact ⟨rfl, rfl⟩

/-! ### ZZB1StringsAt -/
theorem Try.info9 : (Try.prog.info? 9).map (fun i => (i.zero, i.size, i.bytes)) = some (some (.string ByteArray.empty), 1, 16) := by kernel_rfl

structure GotAt (w wr : World) (n : Nat) (f : Nat → ByteArray) (k : Nat) : Prop where
  since : w.Since w.heap.size wr
  size : wr.heap.size = w.heap.size + 2
  row : wr.rowIs (w.heap.size + 1) 9 n (fun j => if j < k then .string (f j) else .string ByteArray.empty)

theorem gotAt_start (w : World) (o : Obj) (n : Nat) (f : Nat → ByteArray) : GotAt w ((w.alloc o).alloc (.cells (madeCells #[.string ByteArray.empty] n) 9)) n f 0 := by
  have h1 := World.rowIs_made (w.alloc o) (.string ByteArray.empty) n 9
  rw [show (w.alloc o).heap.size = w.heap.size + 1 by simp] at h1
  exact ⟨((World.Since.refl _ _).alloc (Nat.le_refl _) _).alloc (by simp) _, by simp, h1.congr (fun j _ => by simp)⟩

theorem gotAt_step {w wr : World} {n : Nat} {f : Nat → ByteArray} {k : Nat} (h : GotAt w wr n f k) : GotAt w (wr.setCell ⟨w.heap.size + 1, k, none⟩ (.string (f k))) n f (k + 1) := by
  refine ⟨h.since.setCell (by show w.heap.size ≤ w.heap.size + 1; omega) _, by simp [h.size], (h.row.set k _).congr (fun j _ => ?_)⟩
  by_cases e : j = k
  · subst e; simp
  · rw [if_neg e]
    by_cases hlt : j < k
    · rw [if_pos hlt, if_pos (by omega)]
    · rw [if_neg hlt, if_neg (by omega)]

set_option maxHeartbeats 1000000 in
theorem strings_at (t G : Nat) (L : Nat → Nat) (S : Nat → Nat → ByteArray) (i : Nat) (w : World) (hL : L i ≤ 1048576) (hi : i < G) (hA : Arr w t G L S) :
    Calls Try.prog 18 #[.agg #[.iface 50 (.slice (some ⟨t, 0, none⟩) G G)], .int .i64 i] w fun e w' => e = .returned (.tuple #[.slice (some ⟨w.heap.size + 1, 0, none⟩) (L i) (L i), .bool true]) ∧ GotAt w w' (L i) (S i) (L i) := by
  have hmk := run_make_row' (P := Try.prog) 27 9 (.string ByteArray.empty) 16 Try.underlying27 Try.info9 rfl .i64 .i64 (L i) (by omega) (by omega)
  have hz : (i : Int) < (G : Int) := by omega
  have hz0 : (0 : Int) ≤ (i : Int) := by omega
  have ht : t < w.heap.size := hA.top.lt
  have ht' : t + 1 + i < w.heap.size := (hA.row i hi).lt
  have g0 : w.cell? ⟨t, i, none⟩ = some (.iface 50 (.slice (some ⟨t + 1 + i, 0, none⟩) (L i) (L i))) := hA.top.cell hi
  have HR : Hid (w.rowIs (t + 1 + i) 20 (L i) (rowOf S i)) := hA.row i hi
  clear hA
  go_enter Try.func18, Try.ntmps18
  go_wp2_with fail
  clear hmk
  go_loopg [10] (L i) (fun g c wr => ∃ k : Nat, k ≤ L i ∧ g = L i - k ∧ c = .int .i64 k ∧ GotAt w wr (L i) (S i) k)
  case atStart => exact ⟨0, Nat.zero_le _, rfl, rfl, gotAt_start w _ (L i) (S i)⟩
  case round =>
    obtain ⟨k, hk, rfl, rfl, hO⟩ := hrel
    by_cases hkn : k < L i
    · have hkz : (k : Int) < (L i : Int) := by omega
      have g1 : wr.cell? ⟨t + 1 + i, k, none⟩ = some (.iface 9 (.string (S i k))) := by rw [hO.since.cell (a := ⟨t + 1 + i, k, none⟩) ht']; exact HR.out.cell hkn
      have g2 := hO.row.cell hkn
      have g3 := hO.row.frozen k
      simp only [Nat.lt_irrefl, if_false] at g2
      go_wp2_with fail
      go_roundg (L i - (k + 1))
      case measure => go_light; omega
      case rel => go_light; exact ⟨k + 1, by omega, rfl, by go_num, gotAt_step hO⟩
    · obtain rfl : k = L i := by omega
      go_wp2_with fail
      go_ret2
      exact ⟨rfl, hO⟩

/-! ### ZZB1SetStringAt -/
set_option maxHeartbeats 1000000 in
theorem set_string (t G : Nat) (L : Nat → Nat) (S : Nat → Nat → ByteArray) (i : Nat) (s : ByteArray) (w : World) (hn : G ≤ 1048576) (hL : L i ≤ 1048576) (hL0 : 0 < L i) (hi : i < G) (hA : Arr w t G L S) :
    Calls Try.prog 17 #[.agg #[.iface 50 (.slice (some ⟨t, 0, none⟩) G G)], .int .i64 i, .int .i64 0, .string s] w fun e w' => e = .returned (.tuple #[]) ∧
      w' = (w.setCell ⟨t + 1 + i, 0, none⟩ (.iface 9 (.string s))).alloc (.cells #[.iface 50 (.slice (some ⟨t, 0, none⟩) G G)] 30) := by
  have hz : (i : Int) < (G : Int) := by omega
  have hz0 : (0 : Int) ≤ (i : Int) := by omega
  have hz1 : (0 : Int) < (L i : Int) := by omega
  have ht : t < w.heap.size := hA.top.lt
  have ht' : t + 1 + i < w.heap.size := (hA.row i hi).lt
  have g0 : w.cell? ⟨t, i, none⟩ = some (.iface 50 (.slice (some ⟨t + 1 + i, 0, none⟩) (L i) (L i))) := hA.top.cell hi
  have g1 : w.cell? ⟨t + 1 + i, 0, none⟩ = some (.iface 9 (.string (S i 0))) := (hA.row i hi).cell hL0
  have g2 := (hA.row i hi).frozen 0
  clear hA
  go_enter Try.func17, Try.ntmps17
  go_wp2_with fail
  go_end0
  exact ⟨rfl, rfl⟩

end Go.Proofs.Qxb6618627a
