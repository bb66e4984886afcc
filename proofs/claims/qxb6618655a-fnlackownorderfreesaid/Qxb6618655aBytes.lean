/-
  leeway: zzKnownBytes (11), zzBytes_FnLackOwnTwiceIsOnceAtTheLesser (10), zzBytes_FnLackOwnOrderFree (17).
-/
import Derived.Test.Qxb6618655aKnown
namespace Go.Proofs.Qxb6618655a
open Go.RowKit
set_option linter.unusedVariables false

def SomeInt (w : World) (e : Ending) (w' : World) : Prop := (∃ z, e = .returned (.int .i64 z)) ∧ w' = w

set_option maxHeartbeats 1000000 in
theorem known_bytes (ga : Option Addr) (gb go G Gc : Nat) (K : Nat → ByteArray) (va : Option Addr) (VL Vc : Nat) (x : Int) (w : World) (hG : G ≤ 1048576) (hK : ∀ i, i < G → (K i).size ≤ 1048576) (hk : Keys w ga gb go G K) (hV : VL ≤ 1048576) (hx0 : 0 ≤ x) (hx : x ≤ 2097152) :
    Calls Try.prog 11 #[.slice ga G Gc, .slice va VL Vc, .int .i64 x] w (SomeInt w) := by
  have d1 : decide ((1048576 : Int) < (G : Int)) = false := by simp; omega
  have d2 : decide ((1048576 : Int) < (VL : Int)) = false := by simp; omega
  go_enter Try.func11, Try.ntmps11
  by_cases hxx : (1048576 : Int) < x
  · go_wp2_with fail
    go_ret
    exact ⟨⟨_, rfl⟩, rfl⟩
  · go_wp2_with fail
    go_loopg [7, 8] G (fun g n i wr => w = wr ∧ ∃ (r : Nat) (z : Int), r ≤ G ∧ g = G - r ∧ i = .int .i64 r ∧ n = .int .i64 z ∧ 0 ≤ z ∧ z ≤ 20000000)
    case atStart => go_light; exact ⟨rfl, 0, _, Nat.zero_le _, rfl, rfl, rfl, by omega, by omega⟩
    case round =>
      obtain ⟨rfl, r, z, hr, rfl, rfl, rfl, hz0, hz1⟩ := hrel
      by_cases hrG : r < G
      · obtain rfl := hk.ga (by omega)
        have hrz : (r : Int) < (G : Int) := by omega
        have hKr := hK r hrG
        have g0 := hk.cell r hrG
        by_cases h2 : z ≤ 1048576
        · go_wp2_with fail
          go_roundg (G - (r + 1))
          case measure => go_light; omega
          case rel => go_light; exact ⟨rfl, r + 1, _, by omega, rfl, by go_num, rfl, by omega, by omega⟩
        · have d3 : decide (z ≤ 1048576) = false := by simp; omega
          go_wp2_with fail
          go_ret
          exact ⟨⟨_, rfl⟩, rfl⟩
      · have d3 : decide ((r : Int) < (G : Int)) = false := by simp; omega
        go_wp2_with fail
        go_ret
        exact ⟨⟨_, rfl⟩, rfl⟩

structure FitsK (G : Nat) (K : Nat → ByteArray) : Prop where
  g : G ≤ 1048576
  k : ∀ r, r < G → (K r).size ≤ 1048576

theorem fitsK_snoc {r : Nat} {K : Nat → ByteArray} (h : FitsK r K) (hr : r + 1 ≤ 1048576) (hk : (K r).size ≤ 1048576) : FitsK (r + 1) K := by
  refine ⟨hr, fun j hj => ?_⟩
  by_cases e : j = r
  · subst e; exact hk
  · exact h.k j (by omega)

def Answers1 (G : Nat) (K : Nat → ByteArray) (VL idn : Nat) (w : World) (e : Ending) (w' : World) : Prop := (∃ b, e = .returned (.bool b) ∧ (b = true → FitsK G K ∧ VL ≤ 1048576 ∧ idn ≤ 1048576)) ∧ w' = w

set_option maxHeartbeats 1000000 in
theorem bytes_twice (ga : Option Addr) (gb go G Gc : Nat) (K : Nat → ByteArray) (va : Option Addr) (VL Vc : Nat) (late : Int) (id : ByteArray) (f1 f2 : Int) (w : World) (hG : G ≤ maxLen) (hK : ∀ i, i < G → (K i).size ≤ maxLen) (hV : VL ≤ maxLen) (hid : id.size ≤ maxLen) (hk : Keys w ga gb go G K) :
    Calls Try.prog 10 #[.slice ga G Gc, .slice va VL Vc, .int .i64 late, .string id, .int .i64 f1, .int .i64 f2] w (Answers1 G K VL id.size w) := by
  unfold maxLen at hG hK hV hid
  go_enter Try.func10, Try.ntmps10
  by_cases h1 : (1048576 : Int) < (G : Int)
  · go_wp2_with fail
    go_ret
    exact ⟨⟨_, rfl, fun h => by cases h⟩, rfl⟩
  · go_wp2_with fail
    go_loopg [13, 14] G (fun g n i wr => w = wr ∧ ∃ (r : Nat) (z : Int), r ≤ G ∧ g = G - r ∧ i = .int .i64 r ∧ n = .int .i64 z ∧ 0 ≤ z ∧ z ≤ 1048576 ∧ FitsK r K)
    case atStart => go_light; exact ⟨rfl, 0, G, Nat.zero_le _, rfl, rfl, rfl, by omega, by omega, ⟨by omega, fun r hr => by omega⟩⟩
    case round =>
      obtain ⟨rfl, r, z, hr, rfl, rfl, rfl, hz0, hz1, hft⟩ := hrel
      by_cases hrG : r < G
      · obtain rfl := hk.ga (by omega)
        have hrz : (r : Int) < (G : Int) := by omega
        have hKr := hK r hrG
        have g0 := hk.cell r hrG
        by_cases h2 : (1048576 : Int) < ((K r).size : Int)
        · go_wp2_with fail
          go_ret
          exact ⟨⟨_, rfl, fun h => by cases h⟩, rfl⟩
        · by_cases h3 : (1048576 : Int) < z + ((K r).size : Int)
          · go_wp2_with fail
            go_ret
            exact ⟨⟨_, rfl, fun h => by cases h⟩, rfl⟩
          · go_wp2_with fail
            go_roundg (G - (r + 1))
            case measure => go_light; omega
            case rel => go_light; exact ⟨rfl, r + 1, _, by omega, rfl, by go_num, rfl, by omega, by omega, fitsK_snoc hft (by omega) (by omega)⟩
      · obtain rfl : r = G := by omega
        clear hrG hr
        by_cases t0a : (1048576 : Int) < (VL : Int)
        · go_wp2_with fail
          go_ret
          exact ⟨⟨_, rfl, fun h => by cases h⟩, rfl⟩
        · by_cases t0b : (1048576 : Int) < z + (VL : Int)
          · go_wp2_with fail
            go_ret
            exact ⟨⟨_, rfl, fun h => by cases h⟩, rfl⟩
          · have q0 : True := trivial
            by_cases t1a : (1048576 : Int) < (id.size : Int)
            · go_wp2_with fail
              go_ret
              exact ⟨⟨_, rfl, fun h => by cases h⟩, rfl⟩
            · by_cases t1b : (1048576 : Int) < z + (VL : Int) + (id.size : Int)
              · go_wp2_with fail
                go_ret
                exact ⟨⟨_, rfl, fun h => by cases h⟩, rfl⟩
              · have q1 : True := trivial
                go_wp2_with fail
                go_ret
                exact ⟨⟨_, rfl, fun _ => ⟨hft, by omega, by omega⟩⟩, rfl⟩

def Answers2 (G : Nat) (K : Nat → ByteArray) (VL n1 n2 : Nat) (w : World) (e : Ending) (w' : World) : Prop := (∃ b, e = .returned (.bool b) ∧ (b = true → FitsK G K ∧ VL ≤ 1048576 ∧ n1 ≤ 1048576 ∧ n2 ≤ 1048576)) ∧ w' = w

set_option maxHeartbeats 1000000 in
theorem bytes_free (ga : Option Addr) (gb go G Gc : Nat) (K : Nat → ByteArray) (va : Option Addr) (VL Vc : Nat) (late : Int) (id1 : ByteArray) (f1 : Int) (id2 : ByteArray) (f2 : Int) (w : World) (hG : G ≤ maxLen) (hK : ∀ i, i < G → (K i).size ≤ maxLen) (hV : VL ≤ maxLen) (hid1 : id1.size ≤ maxLen) (hid2 : id2.size ≤ maxLen) (hk : Keys w ga gb go G K) :
    Calls Try.prog 17 #[.slice ga G Gc, .slice va VL Vc, .int .i64 late, .string id1, .int .i64 f1, .string id2, .int .i64 f2] w (Answers2 G K VL id1.size id2.size w) := by
  unfold maxLen at hG hK hV hid1 hid2
  go_enter Try.func17, Try.ntmps17
  by_cases h1 : (1048576 : Int) < (G : Int)
  · go_wp2_with fail
    go_ret
    exact ⟨⟨_, rfl, fun h => by cases h⟩, rfl⟩
  · go_wp2_with fail
    go_loopg [15, 16] G (fun g n i wr => w = wr ∧ ∃ (r : Nat) (z : Int), r ≤ G ∧ g = G - r ∧ i = .int .i64 r ∧ n = .int .i64 z ∧ 0 ≤ z ∧ z ≤ 1048576 ∧ FitsK r K)
    case atStart => go_light; exact ⟨rfl, 0, G, Nat.zero_le _, rfl, rfl, rfl, by omega, by omega, ⟨by omega, fun r hr => by omega⟩⟩
    case round =>
      obtain ⟨rfl, r, z, hr, rfl, rfl, rfl, hz0, hz1, hft⟩ := hrel
      by_cases hrG : r < G
      · obtain rfl := hk.ga (by omega)
        have hrz : (r : Int) < (G : Int) := by omega
        have hKr := hK r hrG
        have g0 := hk.cell r hrG
        by_cases h2 : (1048576 : Int) < ((K r).size : Int)
        · go_wp2_with fail
          go_ret
          exact ⟨⟨_, rfl, fun h => by cases h⟩, rfl⟩
        · by_cases h3 : (1048576 : Int) < z + ((K r).size : Int)
          · go_wp2_with fail
            go_ret
            exact ⟨⟨_, rfl, fun h => by cases h⟩, rfl⟩
          · go_wp2_with fail
            go_roundg (G - (r + 1))
            case measure => go_light; omega
            case rel => go_light; exact ⟨rfl, r + 1, _, by omega, rfl, by go_num, rfl, by omega, by omega, fitsK_snoc hft (by omega) (by omega)⟩
      · obtain rfl : r = G := by omega
        clear hrG hr
        by_cases t0a : (1048576 : Int) < (VL : Int)
        · go_wp2_with fail
          go_ret
          exact ⟨⟨_, rfl, fun h => by cases h⟩, rfl⟩
        · by_cases t0b : (1048576 : Int) < z + (VL : Int)
          · go_wp2_with fail
            go_ret
            exact ⟨⟨_, rfl, fun h => by cases h⟩, rfl⟩
          · have q0 : True := trivial
            by_cases t1a : (1048576 : Int) < (id1.size : Int)
            · go_wp2_with fail
              go_ret
              exact ⟨⟨_, rfl, fun h => by cases h⟩, rfl⟩
            · by_cases t1b : (1048576 : Int) < z + (VL : Int) + (id1.size : Int)
              · go_wp2_with fail
                go_ret
                exact ⟨⟨_, rfl, fun h => by cases h⟩, rfl⟩
              · have q1 : True := trivial
                by_cases t2a : (1048576 : Int) < (id2.size : Int)
                · go_wp2_with fail
                  go_ret
                  exact ⟨⟨_, rfl, fun h => by cases h⟩, rfl⟩
                · by_cases t2b : (1048576 : Int) < z + (VL : Int) + (id1.size : Int) + (id2.size : Int)
                  · go_wp2_with fail
                    go_ret
                    exact ⟨⟨_, rfl, fun h => by cases h⟩, rfl⟩
                  · have q2 : True := trivial
                    go_wp2_with fail
                    go_ret
                    exact ⟨⟨_, rfl, fun _ => ⟨hft, by omega, by omega, by omega⟩⟩, rfl⟩

end Go.Proofs.Qxb6618655a
