/-
  THE WALKS OF zzB1HoldsRows (16) AND zzBytes_FnCopyOfCopyOfArraysIsEqualAndApart (14).
-/
import Derived.Test.Qxb6618627aArr
import Derived.Deep.QuietTactic
import Derived.BigQuiet
namespace Go.Proofs.Qxb6618627a
open Go.RowKit
set_option linter.unusedVariables false
attribute [local go_sem] ta9_49 ta9_50 ta9_9 ta50_49 ta50_50

theorem since_drewN {B : Nat} {w w' : World} (h : w.Since B w') (n : Nat) : w.Since B (w'.drewN n) := ⟨h.os, h.tape, h.output, h.size, h.block⟩

/-- At the head of HoldsRows' outer loop: nothing that was there has turned; the boxed value lies in block w.heap.size. -/
structure HoldAt (w wr : World) (v : Value) : Prop where
  since : w.Since w.heap.size wr
  size : w.heap.size < wr.heap.size
  box : wr.rowIs w.heap.size 30 1 (fun _ => v)

theorem HoldAt.step {w wr w' : World} {v : Value} (h : HoldAt w wr v) (hs : wr.Since wr.heap.size w') : HoldAt w w' v :=
  ⟨h.since.trans (since_mono hs (Nat.le_of_lt h.size)), Nat.lt_of_lt_of_le h.size hs.size, h.box.of_block (hs.block _ h.size)⟩

set_option maxHeartbeats 1000000 in
theorem holds_rows (t G : Nat) (ga : Option Addr) (gb go Gc : Nat) (A : Nat → Option Addr) (L C RB RO : Nat → Nat) (S : Nat → Nat → ByteArray) (w : World) (hn : G ≤ 1048576) (hL : ∀ r, r < G → L r ≤ 1048576)
    (hI : Inp w ga gb go G A L C RB RO S) (hA : Arr w t G L S) (htG : t + 1 + G ≤ w.heap.size) :
    Calls Try.prog 16 #[.agg #[.iface 50 (.slice (some ⟨t, 0, none⟩) G G)], .slice ga G Gc] w fun e w' => e = .returned (.bool true) ∧ w.Since w.heap.size w' := by
  go_enter Try.func16, Try.ntmps16
  go_wp2_with fail
  refine (arr_len t G _).mono ?_
  rintro e w' ⟨rfl, rfl⟩
  go_wp2_with fail
  go_loopg [7] G (fun g i wr => ∃ r : Nat, r ≤ G ∧ g = G - r ∧ i = .int .i64 r ∧ HoldAt w wr (.iface 50 (.slice (some ⟨t, 0, none⟩) G G)))
  case atStart =>
    go_light
    refine ⟨0, Nat.zero_le _, rfl, rfl, ((World.Since.refl _ _).alloc (Nat.le_refl _) _).alloc (by simp) _, by simp; omega, ?_⟩
    refine (World.rowIs_alloc w #[.iface 50 (.slice (some ⟨t, 0, none⟩) G G)] 30 _ ?_).alloc _
    intro i hi
    have : i = 0 := by simp at hi; omega
    subst this; rfl
  case round =>
    obtain ⟨r, hr, rfl, rfl, hO⟩ := hrel
    by_cases hrG : r < G
    · obtain rfl := hI.ga (by omega)
      have hrz : (r : Int) < (G : Int) := by omega
      have hLr := hL r hrG
      have b0 := hO.box.cell (i := 0) (by omega)
      have AO : Hid (Arr wr t G L S) := hA.of_since hO.since (by omega)
      go_wp2_with fail
      refine (strings_at t G L S r wr hLr hrG AO.out).mono ?_
      rintro e w' ⟨rfl, hg⟩
      have hO1 := hO.step hg.since
      have g0 := (hI.since hO1.since).row r hrG
      have hrow := hg.row
      clear b0
      go_wp2_with fail
      have hrow' : w'.rowIs (wr.heap.size + 1) 9 (L r) (fun j => .string (S r j)) := hrow.congr (fun j hj => by rw [if_pos hj])
      generalize hB : wr.heap.size + 1 = rb at hrow' ⊢
      clear hrow hO AO hg hB
      go_loopg [10] (L r) (fun g i wi => ∃ c : Nat, c ≤ L r ∧ g = L r - c ∧ i = .int .i64 c ∧ HoldAt w wi (.iface 50 (.slice (some ⟨t, 0, none⟩) G G)) ∧ wi.rowIs rb 9 (L r) (fun j => .string (S r j)))
      case atStart => exact ⟨0, Nat.zero_le _, rfl, rfl, hO1, hrow'⟩
      case round =>
        clear hrow' hO1 g0
        obtain ⟨c, hc, rfl, rfl, hN, hrow⟩ := hrel
        by_cases hcL : c < L r
        · have hcz : (c : Int) < (L r : Int) := by omega
          have HIr := hI.since hN.since
          have g0 := HIr.row r hrG
          have g1 := (HIr.cell r hrG c hcL).2
          rw [(HIr.cell r hrG c hcL).1] at g0
          have g2 := hrow.cell hcL
          clear HIr
          go_wp2_with fail
          go_quiet (fail)
          go_wp2_with fail
          go_roundg (L r - (c + 1))
          case measure => go_light; omega
          case rel => go_light; exact ⟨c + 1, by omega, rfl, by go_num, ⟨since_drewN hN.since _, hN.size, hN.box⟩, hrow⟩
        · obtain rfl : c = L r := by omega
          go_wp2_with fail
          go_roundg (G - (r + 1))
          case measure => go_light; omega
          case rel => go_light; exact ⟨r + 1, by omega, rfl, by go_num, hN⟩
    · obtain rfl : r = G := by omega
      go_wp2_with fail
      go_ret
      exact ⟨rfl, hO.since⟩


/-! ### zzBytes_..: it answers, and turns nothing -/
structure Fits (G : Nat) (L : Nat → Nat) (S : Nat → Nat → ByteArray) : Prop where
  g : G ≤ 1048576
  l : ∀ r, r < G → L r ≤ 1048576
  s : ∀ r, r < G → ∀ c, c < L r → (S r c).size ≤ 1048576
def Answers (G : Nat) (L : Nat → Nat) (S : Nat → Nat → ByteArray) (w : World) (e : Ending) (w' : World) : Prop := (∃ b, e = .returned (.bool b) ∧ (b = true → Fits G L S)) ∧ w' = w

theorem fits_row {r : Nat} {L : Nat → Nat} {S : Nat → Nat → ByteArray} (h : Fits r L S) (hr : r + 1 ≤ 1048576) (hl : L r ≤ 1048576) (hs : ∀ d, d < L r → (S r d).size ≤ 1048576) : Fits (r + 1) L S := by
  refine ⟨hr, fun j hj => ?_, fun j hj => ?_⟩
  · by_cases e : j = r
    · subst e; exact hl
    · exact h.l j (by omega)
  · by_cases e : j = r
    · subst e; exact hs
    · exact h.s j (by omega)
theorem fits_snoc {S : Nat → ByteArray} {c : Nat} (h : ∀ d, d < c → (S d).size ≤ 1048576) (hc : (S c).size ≤ 1048576) : ∀ d, d < c + 1 → (S d).size ≤ 1048576 := by
  intro d hd
  by_cases e : d = c
  · subst e; exact hc
  · exact h d (by omega)

set_option maxHeartbeats 1000000 in
theorem bytes_any (ga : Option Addr) (gb go G Gc : Nat) (A : Nat → Option Addr) (L C RB RO : Nat → Nat) (S : Nat → Nat → ByteArray) (w : World) (hG : G ≤ maxLen) (hL : ∀ r, r < G → L r ≤ maxLen) (hS : ∀ r, r < G → ∀ c, c < L r → (S r c).size ≤ maxLen)
    (hI : Inp w ga gb go G A L C RB RO S) :
    Calls Try.prog 14 #[.slice ga G Gc] w (Answers G L S w) := by
  unfold maxLen at hG hL hS
  go_enter Try.func14, Try.ntmps14
  by_cases h1 : (1048576 : Int) < (G : Int)
  · go_wp2_with fail
    go_ret
    exact ⟨⟨_, rfl, fun h => by cases h⟩, rfl⟩
  · go_wp2_with fail
    go_loopg [3, 4] G (fun g n i wr => w = wr ∧ ∃ (r : Nat) (z : Int), r ≤ G ∧ g = G - r ∧ i = .int .i64 r ∧ n = .int .i64 z ∧ 0 ≤ z ∧ z ≤ 1048576 ∧ Fits r L S)
    case atStart => exact ⟨rfl, 0, G, Nat.zero_le _, rfl, rfl, rfl, by omega, by omega, ⟨by omega, fun r hr => by omega, fun r hr => by omega⟩⟩
    case round =>
      obtain ⟨rfl, r, z, hr, rfl, rfl, rfl, hz0, hz1, hft⟩ := hrel
      by_cases hrG : r < G
      · obtain rfl := hI.ga (by omega)
        have hrz : (r : Int) < (G : Int) := by omega
        have hLr := hL r hrG
        have g0 := hI.row r hrG
        by_cases h2 : (1048576 : Int) < (L r : Int)
        · go_wp2_with fail
          go_ret
          exact ⟨⟨_, rfl, fun h => by cases h⟩, rfl⟩
        · by_cases h3 : (1048576 : Int) < z + (L r : Int)
          · go_wp2_with fail
            go_ret
            exact ⟨⟨_, rfl, fun h => by cases h⟩, rfl⟩
          · go_wp2_with fail
            go_loopg [3, 5] (L r) (fun g n i wi => w = wi ∧ ∃ (c : Nat) (z : Int), c ≤ L r ∧ g = L r - c ∧ i = .int .i64 c ∧ n = .int .i64 z ∧ 0 ≤ z ∧ z ≤ 1048576 ∧ ∀ d, d < c → (S r d).size ≤ 1048576)
            case atStart => go_light; exact ⟨rfl, 0, _, Nat.zero_le _, rfl, rfl, rfl, by omega, by omega, fun d hd => by omega⟩
            case round =>
              obtain ⟨rfl, c, y, hc, rfl, rfl, rfl, hy0, hy1, hsd⟩ := hrel
              by_cases hcL : c < L r
              · have hcz : (c : Int) < (L r : Int) := by omega
                have g1 := (hI.cell r hrG c hcL).2
                rw [(hI.cell r hrG c hcL).1] at g0
                have hSc := hS r hrG c hcL
                by_cases h4 : (1048576 : Int) < ((S r c).size : Int)
                · go_wp2_with fail
                  go_ret
                  exact ⟨⟨_, rfl, fun h => by cases h⟩, rfl⟩
                · by_cases h5 : (1048576 : Int) < y + ((S r c).size : Int)
                  · go_wp2_with fail
                    go_ret
                    exact ⟨⟨_, rfl, fun h => by cases h⟩, rfl⟩
                  · go_wp2_with fail
                    go_roundg (L r - (c + 1))
                    case measure => go_light; omega
                    case rel => go_light; exact ⟨rfl, c + 1, _, by omega, rfl, by go_num, rfl, by omega, by omega, fits_snoc hsd (by omega)⟩
              · obtain rfl : c = L r := by omega
                go_wp2_with fail
                go_roundg (G - (r + 1))
                case measure => go_light; omega
                case rel => go_light; exact ⟨rfl, r + 1, _, by omega, rfl, by go_num, rfl, by omega, by omega, fits_row hft (by omega) (by omega) hsd⟩
      · obtain rfl : r = G := by omega
        go_wp2_with fail
        go_ret
        exact ⟨⟨_, rfl, fun _ => hft⟩, rfl⟩

end Go.Proofs.Qxb6618627a
