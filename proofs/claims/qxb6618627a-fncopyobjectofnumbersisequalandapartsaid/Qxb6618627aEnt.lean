/-
  THE WALKS OF zzBytes (5), zzB1LastOf (8), zzB1SameF (20), zzB1SameNums (10).
-/
import Derived.Test.Qxb6618627aCopyMap
import Derived.Deep.QuietTactic
import Derived.BigQuiet
namespace Go.Proofs.Qxb6618627a
open Go.RowKit
set_option linter.unusedVariables false

/-! ### The argument: a slice of entries -/
structure InpE (w : World) (ga : Option Addr) (gb go G : Nat) (K : Nat → ByteArray) (A : Nat → Option Addr) (L C RB RO : Nat → Nat) (X : Nat → Nat → Nat) : Prop where
  ga : 0 < G → ga = some ⟨gb, go, none⟩
  key : ∀ i, i < G → w.cell? ⟨gb, go + i * 2, none⟩ = some (.string (K i))
  nums : ∀ i, i < G → w.cell? ⟨gb, go + i * 2 + 1, none⟩ = some (.slice (A i) (L i) (C i))
  num : ∀ i, i < G → ∀ c, c < L i → A i = some ⟨RB i, RO i, none⟩ ∧ w.cell? ⟨RB i, RO i + c, none⟩ = some (.float .f64 (X i c))

theorem cell_keep {w w' : World} (hs : w.Since w.heap.size w') {b o : Nat} {v : Value} (h : w.cell? ⟨b, o, none⟩ = some v) : w'.cell? ⟨b, o, none⟩ = some v := by
  rw [hs.cell (a := ⟨b, o, none⟩) (World.block_lt_of_cell? _ _ h)]; exact h

theorem InpE.since {w w' : World} {ga : Option Addr} {gb go G : Nat} {K : Nat → ByteArray} {A : Nat → Option Addr} {L C RB RO : Nat → Nat} {X : Nat → Nat → Nat} (h : InpE w ga gb go G K A L C RB RO X) (hs : w.Since w.heap.size w') : InpE w' ga gb go G K A L C RB RO X :=
  ⟨h.ga, fun i hi => cell_keep hs (h.key i hi), fun i hi => cell_keep hs (h.nums i hi), fun i hi c hc => ⟨(h.num i hi c hc).1, cell_keep hs (h.num i hi c hc).2⟩⟩

/-! ### zzBytes -/
structure FitsE (G : Nat) (K : Nat → ByteArray) (L : Nat → Nat) : Prop where
  g : G ≤ 1048576
  k : ∀ r, r < G → (K r).size ≤ 1048576
  l : ∀ r, r < G → L r ≤ 1048576
def AnswersE (G : Nat) (K : Nat → ByteArray) (L : Nat → Nat) (w : World) (e : Ending) (w' : World) : Prop := (∃ b, e = .returned (.bool b) ∧ (b = true → FitsE G K L)) ∧ w' = w

theorem fitsE_snoc {r : Nat} {K : Nat → ByteArray} {L : Nat → Nat} (h : FitsE r K L) (hr : r + 1 ≤ 1048576) (hk : (K r).size ≤ 1048576) (hl : L r ≤ 1048576) : FitsE (r + 1) K L := by
  refine ⟨hr, fun j hj => ?_, fun j hj => ?_⟩
  · by_cases e : j = r
    · subst e; exact hk
    · exact h.k j (by omega)
  · by_cases e : j = r
    · subst e; exact hl
    · exact h.l j (by omega)

set_option maxHeartbeats 1000000 in
theorem bytesE_any (ga : Option Addr) (gb go G Gc : Nat) (K : Nat → ByteArray) (A : Nat → Option Addr) (L C RB RO : Nat → Nat) (X : Nat → Nat → Nat) (w : World) (hG : G ≤ maxLen) (hL : ∀ r, r < G → L r ≤ maxLen) (hK : ∀ r, r < G → (K r).size ≤ maxLen)
    (hI : InpE w ga gb go G K A L C RB RO X) :
    Calls Try.prog 5 #[.slice ga G Gc] w (AnswersE G K L w) := by
  unfold maxLen at hG hL hK
  go_enter Try.func5, Try.ntmps5
  by_cases h1 : (1048576 : Int) < (G : Int)
  · go_wp2_with fail
    go_ret
    exact ⟨⟨_, rfl, fun h => by cases h⟩, rfl⟩
  · go_wp2_with fail
    go_loopg [3, 4] G (fun g n i wr => w = wr ∧ ∃ (r : Nat) (z : Int), r ≤ G ∧ g = G - r ∧ i = .int .i64 r ∧ n = .int .i64 z ∧ 0 ≤ z ∧ z ≤ 1048576 ∧ FitsE r K L)
    case atStart => exact ⟨rfl, 0, G, Nat.zero_le _, rfl, rfl, rfl, by omega, by omega, ⟨by omega, fun r hr => by omega, fun r hr => by omega⟩⟩
    case round =>
      obtain ⟨rfl, r, z, hr, rfl, rfl, rfl, hz0, hz1, hft⟩ := hrel
      by_cases hrG : r < G
      · obtain rfl := hI.ga (by omega)
        have hrz : (r : Int) < (G : Int) := by omega
        have hLr := hL r hrG
        have hKr := hK r hrG
        have g0 := hI.key r hrG
        have g1 := hI.nums r hrG
        by_cases h2 : (1048576 : Int) < ((K r).size : Int)
        · go_wp2_with fail
          go_ret
          exact ⟨⟨_, rfl, fun h => by cases h⟩, rfl⟩
        · by_cases h3 : (1048576 : Int) < z + ((K r).size : Int)
          · go_wp2_with fail
            go_ret
            exact ⟨⟨_, rfl, fun h => by cases h⟩, rfl⟩
          · by_cases h4 : (1048576 : Int) < (L r : Int)
            · go_wp2_with fail
              go_ret
              exact ⟨⟨_, rfl, fun h => by cases h⟩, rfl⟩
            · by_cases h5 : (1048576 : Int) < z + ((K r).size : Int) + (L r : Int)
              · go_wp2_with fail
                go_ret
                exact ⟨⟨_, rfl, fun h => by cases h⟩, rfl⟩
              · go_wp2_with fail
                go_roundg (G - (r + 1))
                case measure => go_light; omega
                case rel => go_light; exact ⟨rfl, r + 1, _, by omega, rfl, by go_num, rfl, by omega, by omega, fitsE_snoc hft (by omega) (by omega) (by omega)⟩
      · obtain rfl : r = G := by omega
        go_wp2_with fail
        go_ret
        exact ⟨⟨_, rfl, fun _ => hft⟩, rfl⟩

/-! ### zzB1LastOf -/
/-- The last place below i at which s stands. -/
def lastIdx (K : Nat → ByteArray) : Nat → ByteArray → Option Nat
  | 0, _ => none
  | i + 1, s => if K i = s then some i else lastIdx K i s

def isLast (K : Nat → ByteArray) (G i : Nat) : Bool := lastIdx K G (K i) == some i

theorem lastIdx_some {K : Nat → ByteArray} {s : ByteArray} : ∀ {G i : Nat}, lastIdx K G s = some i → i < G ∧ K i = s
  | 0, _, h => by cases h
  | G + 1, i, h => by
    unfold lastIdx at h
    split at h
    · rename_i e; cases h; exact ⟨by omega, e⟩
    · have := lastIdx_some h; exact ⟨by omega, this.2⟩

theorem lastIdx_none {K : Nat → ByteArray} {s : ByteArray} : ∀ {G : Nat}, (∀ j, j < G → K j ≠ s) → lastIdx K G s = none
  | 0, _ => rfl
  | G + 1, h => by
    unfold lastIdx
    rw [if_neg (h G (by omega))]
    exact lastIdx_none (fun j hj => h j (by omega))

/-- No later place holds the same. -/
theorem isLast_true {K : Nat → ByteArray} {i : Nat} : ∀ {G : Nat}, i < G → (∀ j, i < j → j < G → K j ≠ K i) → isLast K G i = true
  | 0, h, _ => absurd h (Nat.not_lt_zero _)
  | G + 1, h, hj => by
    unfold isLast lastIdx
    by_cases e : i = G
    · subst e; simp
    · rw [if_neg (hj G (by omega) (by omega))]
      exact isLast_true (by omega) (fun j h1 h2 => hj j h1 (by omega))

theorem isLast_false {K : Nat → ByteArray} {i j : Nat} : ∀ {G : Nat}, i < j → j < G → K j = K i → isLast K G i = false
  | 0, _, h, _ => absurd h (Nat.not_lt_zero _)
  | G + 1, h1, h2, e => by
    unfold isLast lastIdx
    by_cases eG : K G = K i
    · rw [if_pos eG]
      have : G ≠ i := by omega
      simp [this]
    · rw [if_neg eG]
      have hne : j ≠ G := fun e' => eG (by rw [← e']; exact e)
      exact isLast_false h1 (by omega) e

theorem str_eq {a b : ByteArray} (h : a = b) : (a.toList == b.toList) = true := by rw [h]; simp
theorem str_ne {a b : ByteArray} (h : a ≠ b) : (a.toList == b.toList) = false := by
  cases hb : (a.toList == b.toList)
  · rfl
  · exact absurd (bytes_inj (by have := eq_of_beq hb; rwa [ByteArray.toList_eq, ByteArray.toList_eq] at this)) h

def Quiet1 (w : World) (b : Bool) (e : Ending) (w' : World) : Prop := e = .returned (.bool b) ∧ w.Since w.heap.size w'
theorem since_drewN' {B : Nat} {w w' : World} (h : w.Since B w') (n : Nat) : w.Since B (w'.drewN n) := ⟨h.os, h.tape, h.output, h.size, h.block⟩

set_option maxHeartbeats 1000000 in
theorem last_of (ga : Option Addr) (gb go G Gc : Nat) (K : Nat → ByteArray) (A : Nat → Option Addr) (L C RB RO : Nat → Nat) (X : Nat → Nat → Nat) (i : Nat) (w : World) (hG : G ≤ 1048576) (hi : i < G)
    (hI : InpE w ga gb go G K A L C RB RO X) :
    Calls Try.prog 8 #[.slice ga G Gc, .int .i64 i] w (Quiet1 w (isLast K G i)) := by
  obtain rfl := hI.ga (by omega)
  have hiz : (i : Int) < (G : Int) := by omega
  go_enter Try.func8, Try.ntmps8
  go_wp2_with fail
  go_loopg [5] (G - (i + 1)) (fun g n wr => w.Since w.heap.size wr ∧ ∃ j : Nat, i < j ∧ j ≤ G ∧ g = G - j ∧ n = .int .i64 j ∧ ∀ j', i < j' → j' < j → K j' ≠ K i)
  case atStart => exact ⟨World.Since.refl _ _, i + 1, by omega, by omega, rfl, by go_num, fun j' h1 h2 => by omega⟩
  case round =>
    obtain ⟨hS, j, hij, hjG, rfl, rfl, hne⟩ := hrel
    by_cases hj : j < G
    · have hjz : (j : Int) < (G : Int) := by omega
      have g0 := (hI.since hS).key j hj
      have g1 := (hI.since hS).key i hi
      by_cases e : K j = K i
      · have hb := str_eq e
        have HE : Hid (K j = K i) := e
        clear e hne
        go_wp2_with fail
        go_quiet (fail)
        go_wp2_with fail
        go_ret
        exact ⟨by rw [isLast_false hij hj HE.out]; rfl, since_drewN' hS _⟩
      · have hb := str_ne e
        have HE : Hid (K j ≠ K i) := e
        have HN : Hid (∀ j', i < j' → j' < j → K j' ≠ K i) := hne
        clear e hne
        go_wp2_with fail
        go_quiet (fail)
        go_wp2_with fail
        go_roundg (G - (j + 1))
        case measure => go_light; omega
        case rel =>
          go_light
          refine ⟨since_drewN' hS _, j + 1, by omega, by omega, rfl, by go_num, fun j' h1 h2 => ?_⟩
          by_cases e' : j' = j
          · subst e'; exact HE.out
          · exact HN.out j' h1 (by omega)
    · have hjz : ¬ (j : Int) < (G : Int) := by omega
      have HN : Hid (∀ j', i < j' → j' < j → K j' ≠ K i) := hne
      have HJ : Hid (j = G) := by show j = G; omega
      clear hne
      go_wp2_with fail
      go_ret
      exact ⟨by rw [isLast_true hi (by rw [← HJ.out]; exact HN.out)]; rfl, hS⟩

/-! ### zzB1SameF, zzB1SameNums -/
set_option maxHeartbeats 400000 in
theorem same_f (x : Nat) (w : World) : Calls Try.prog 20 #[.float .f64 x, .float .f64 x] w fun e w' => e = .returned (.bool true) ∧ w' = w := by
  by_cases h : (FloatKind.f64.format.order x x == some .eq) = true
  · have h2 : (FloatKind.f64.format.order x x != some .eq) = false := by simp only [bne, h]; rfl
    go_enter Try.func20, Try.ntmps20
    go_wp2_with fail
    go_ret
    exact ⟨rfl, rfl⟩
  · have h1 : (FloatKind.f64.format.order x x == some .eq) = false := by simpa using h
    have h2 : (FloatKind.f64.format.order x x != some .eq) = true := by simp only [bne, h1]; rfl
    clear h
    go_enter Try.func20, Try.ntmps20
    go_wp2_with fail
    go_ret
    exact ⟨rfl, rfl⟩

set_option maxHeartbeats 1000000 in
theorem same_nums (ab n ac : Nat) (A : Option Addr) (rb ro c : Nat) (x : Nat → Nat) (w : World) (hn : n ≤ 1048576) (ha : ∀ i, i < n → w.cell? ⟨ab, i, none⟩ = some (.float .f64 (x i)))
    (hb : ∀ i, i < n → A = some ⟨rb, ro, none⟩ ∧ w.cell? ⟨rb, ro + i, none⟩ = some (.float .f64 (x i))) :
    Calls Try.prog 10 #[.slice (some ⟨ab, 0, none⟩) n ac, .slice A n c] w (Quiet1 w true) := by
  go_enter Try.func10, Try.ntmps10
  go_wp2_with fail
  go_loopg [5] n (fun g i wr => w.Since w.heap.size wr ∧ ∃ k : Nat, k ≤ n ∧ g = n - k ∧ i = .int .i64 k)
  case atStart => exact ⟨World.Since.refl _ _, 0, Nat.zero_le _, rfl, rfl⟩
  case round =>
    obtain ⟨hS, k, hk, rfl, rfl⟩ := hrel
    by_cases hkn : k < n
    · have hkz : (k : Int) < (n : Int) := by omega
      obtain rfl := (hb k hkn).1
      have g0 := cell_keep hS (ha k hkn)
      have g1 := cell_keep hS (hb k hkn).2
      go_wp2_with fail
      go_quiet ((go_at_call 20; exact Calls.quiet_of_same (same_f _ _)))
      go_wp2_with fail
      go_roundg (n - (k + 1))
      case measure => go_light; omega
      case rel => go_light; exact ⟨since_drewN' hS _, k + 1, by omega, rfl, by go_num⟩
    · have hkz : ¬ (k : Int) < (n : Int) := by omega
      go_wp2_with fail
      go_ret
      exact ⟨rfl, hS⟩

end Go.Proofs.Qxb6618627a
