/-
  evolvent, the card: toError (15), ParseUint (16, 11).
-/
import Derived.Test.Qxb6618657aDoorDig
import Derived.LaidEql
namespace Go.Proofs.Qxb6618657aDoor
open Go.RowKit
set_option linter.unusedVariables false

theorem c15 (f s : ByteArray) (b z : Int) (w : World) (u1 : TypeId) (p1 : Option Addr) (hlim : s.size ≤ 281474976710656) (h0 : s.size ≠ 0) (hg1 : w.cell? ⟨1, 0, none⟩ = some (.iface u1 (.pointer p1))) :
    Calls Tryd.prog 15 #[.string f, .string s, .int .i64 b, .int .i64 z, .iface 37 (.int .i64 2)] w fun e w' => (∃ a, e = .returned (.iface 39 (.pointer (some a)))) ∧ Below w.heap.size w w' := by
  have heq : ∀ W, (binOp BinOp.eql 24 (.iface 37 (.int .i64 2)) (.iface 37 (.int .i64 2))).run Tryd.prog W = .ok (.bool true) W := fun W => by kernel_rfl
  go_enter Tryd.func15, Tryd.ntmps15
  go_wp2_with fail
  refine (c18 f s _ u1 p1 hlim h0 hg1).mono ?_
  rintro e w1 ⟨⟨a, rfl⟩, hb⟩
  go_wp2_with fail
  go_ret
  exact ⟨⟨_, rfl⟩, hb⟩

def lowr (a : Int) : Int := bits BinOp.or IntKind.u8 a 32

theorem low_hex_nat : ∀ n : Fin 256, dig (n.val : Int) = false → hex (n.val : Int) = true → 97 ≤ lowr (n.val : Int) ∧ lowr (n.val : Int) ≤ 102 ∧ val (n.val : Int) = lowr (n.val : Int) - 87 := by decide +kernel
theorem low_not_nat : ∀ n : Fin 256, dig (n.val : Int) = false → hex (n.val : Int) = false → 97 ≤ lowr (n.val : Int) → lowr (n.val : Int) ≤ 122 → 103 ≤ lowr (n.val : Int) := by decide +kernel
theorem low_range_nat : ∀ n : Fin 256, 0 ≤ lowr (n.val : Int) ∧ lowr (n.val : Int) ≤ 255 := by decide +kernel

theorem fin_of {a : Int} (h0 : 0 ≤ a) (h1 : a ≤ 255) : ∃ n : Fin 256, a = (n.val : Int) := ⟨⟨a.toNat, by omega⟩, by simp; omega⟩

theorem c22' (a : Int) (w : World) : Calls Tryd.prog 22 #[.int .u8 a] w fun e w' => e = .returned (.int .u8 (lowr a)) ∧ w' = w := c22 a w

/-- What ParseUint answers. -/
def Parsed (c : UInt8) (w : World) (e : Ending) (w' : World) : Prop :=
  ((hex (c.toNat : Int) = true ∧ e = .returned (.tuple #[.int .u64 (val (c.toNat : Int)), .nilIface])) ∨ (hex (c.toNat : Int) = false ∧ e = .returned (.tuple #[.int .u64 0, .iface 37 (.int .i64 2)]))) ∧ Below w.heap.size w w'

set_option maxRecDepth 100000 in
set_option maxHeartbeats 2000000 in
theorem c16 (c : UInt8) (w : World) :
    Calls Tryd.prog 16 #[.string ⟨#[c]⟩, .int .i64 16, .int .i64 64] w (Parsed c w) := by
  have hconv : ∀ W : World, (convert 9 22 (.string ⟨#[c]⟩)).run Tryd.prog W = .ok (.slice (some ⟨W.heap.size, 0, none⟩) 1 (grownCap W 1 0 5)) (Lib.bytesWorld W 5 ⟨#[c]⟩) := fun W => Lib.run_convert_string_bytes (P := Tryd.prog) W 9 22 5 ⟨#[c]⟩ Tryd.underlying9 Tryd.underlying22 Tryd.underlying5
  have hB : Below w.heap.size w (Lib.bytesWorld w 5 ⟨#[c]⟩) := by
    refine ⟨?_, ?_, ?_, by rw [Lib.bytesWorld_size]; omega, fun k hk => Lib.bytesWorld_at_old w 5 ⟨#[c]⟩ k hk⟩
    all_goals
      unfold Lib.bytesWorld World.freeze
      split <;> rfl
  have hcell : (Lib.bytesWorld w 5 ⟨#[c]⟩).cell? ⟨w.heap.size, 0, none⟩ = some (.int .u8 (c.toNat : Int)) := by
    have := Lib.bytesWorld_cell w 5 ⟨#[c]⟩ 0 (by show 0 < 1; omega)
    simpa using this
  obtain ⟨hr0, hr1⟩ : 0 ≤ (c.toNat : Int) ∧ (c.toNat : Int) ≤ 255 := ⟨by omega, by have := c.toNat_lt; omega⟩
  generalize hW2 : Lib.bytesWorld w 5 ⟨#[c]⟩ = W2 at hB hcell
  have hconv1 := hconv w
  rw [hW2] at hconv1
  clear hconv hW2
  generalize ha : (c.toNat : Int) = a at *
  have hmax : IntKind.u64.wrap (IntKind.u64.wrap 18446744073709551616 - 1) = 18446744073709551615 := by decide
  go_enter Tryd.func16, Tryd.ntmps16
  go_wp2_with fail
  generalize w.heap.size = B at hconv1 hcell ⊢
  go_loopg [12, 13, 101] 1 (fun g s12 s13 s101 wr => W2 = wr ∧ s12 = .bool false ∧ ∃ k : Nat, k ≤ 1 ∧ g = 1 - k ∧ s101 = .int .i64 (k : Int) ∧ ((k = 0 ∧ s13 = .int .u64 0) ∨ (k = 1 ∧ hex a = true ∧ s13 = .int .u64 (val a))))
  case atStart => go_light; exact ⟨rfl, rfl, 0, by omega, rfl, rfl, Or.inl ⟨rfl, rfl⟩⟩
  case round =>
    obtain ⟨rfl, rfl, k, hk, rfl, rfl, hs⟩ := hrel
    rcases hs with ⟨rfl, rfl⟩ | ⟨rfl, hh, rfl⟩
    · cases hd : dig a with
      | true =>
        obtain ⟨d0, d1⟩ : 48 ≤ a ∧ a ≤ 57 := by simpa [dig] using hd
        have hh : hex a = true := by simp [hex, hd]
        have hv : val a = a - 48 := by unfold val; rw [if_pos ⟨d0, d1⟩]
        have hne : (a == 95) = false := by simp; omega
        have HH : Hid (hex a = true ∧ val a = a - 48) := ⟨hh, hv⟩
        clear hd ha hh hv
        go_wp2_with fail
        go_roundg 0
        case measure => go_light; omega
        case rel => go_light; exact ⟨rfl, rfl, 1, by omega, rfl, rfl, Or.inr ⟨rfl, HH.out.1, by rw [HH.out.2]⟩⟩
      | false =>
        obtain ⟨l0, l1⟩ : 0 ≤ lowr a ∧ lowr a ≤ 255 := by
          obtain ⟨n, rfl⟩ := fin_of hr0 hr1
          exact low_range_nat n
        have hdd : ¬ (48 ≤ a ∧ a ≤ 57) := by
          intro h
          simp [dig, h] at hd
        cases hh : hex a with
        | true =>
          obtain ⟨l2, l3, hv⟩ : 97 ≤ lowr a ∧ lowr a ≤ 102 ∧ val a = lowr a - 87 := by
            obtain ⟨n, rfl⟩ := fin_of hr0 hr1
            exact low_hex_nat n hd hh
          have HH : Hid (hex a = true ∧ val a = lowr a - 97 + 10) := ⟨hh, by omega⟩
          have hne : (a == 95) = false := by
            simp
            rintro rfl
            revert hh
            decide
          clear hd ha hh hv
          by_cases q1 : 48 ≤ a
          · have q2 : 57 < a := by omega
            clear hdd
            go_wp2_with (first | (go_at_call 22; refine (c22' _ _).mono ?_; rintro e w' ⟨rfl, rfl⟩))
            go_roundg 0
            case measure => go_light; omega
            case rel => go_light; exact ⟨rfl, rfl, 1, by omega, rfl, rfl, Or.inr ⟨rfl, HH.out.1, by rw [HH.out.2]⟩⟩
          · clear hdd
            go_wp2_with (first | (go_at_call 22; refine (c22' _ _).mono ?_; rintro e w' ⟨rfl, rfl⟩))
            go_roundg 0
            case measure => go_light; omega
            case rel => go_light; exact ⟨rfl, rfl, 1, by omega, rfl, rfl, Or.inr ⟨rfl, HH.out.1, by rw [HH.out.2]⟩⟩
        | false =>
          have hv : 97 ≤ lowr a → lowr a ≤ 122 → 103 ≤ lowr a := by
            obtain ⟨n, rfl⟩ := fin_of hr0 hr1
            exact low_not_nat n hd hh
          have HH : Hid (hex (c.toNat : Int) = false) := by rw [ha]; exact hh
          have hh0 : (false = true ∨ a = 95) ∨ a ≠ 95 := by omega
          clear hd ha hh
          by_cases q0 : a = 95
          · have ql : lowr a = 127 := by rw [q0]; decide
            have hne : (a == 95) = true := by simp; exact q0
            have l2 : 97 ≤ lowr a := by omega
            have l3 : ¬ lowr a ≤ 122 := by omega
            have q1 : 48 ≤ a := by omega
            have q2 : 57 < a := by omega
            clear hv hdd hh0 q0 ql
            go_wp2_with (first | (go_at_call 22; refine (c22' _ _).mono ?_; rintro e w' ⟨rfl, rfl⟩))
            go_ret2
            exact ⟨Or.inr ⟨HH.out, rfl⟩, hB⟩
          have hne : (a == 95) = false := by simp; exact q0
          clear hh0 q0
          by_cases l2 : 97 ≤ lowr a
          · by_cases l3 : lowr a ≤ 122
            · have l4 := hv l2 l3
              clear hv
              by_cases q1 : 48 ≤ a
              · have q2 : 57 < a := by omega
                clear hdd
                go_wp2_with (first | (go_at_call 22; refine (c22' _ _).mono ?_; rintro e w' ⟨rfl, rfl⟩))
                go_ret2
                exact ⟨Or.inr ⟨HH.out, rfl⟩, hB⟩
              · clear hdd
                go_wp2_with (first | (go_at_call 22; refine (c22' _ _).mono ?_; rintro e w' ⟨rfl, rfl⟩))
                go_ret2
                exact ⟨Or.inr ⟨HH.out, rfl⟩, hB⟩
            · clear hv
              by_cases q1 : 48 ≤ a
              · have q2 : 57 < a := by omega
                clear hdd
                go_wp2_with (first | (go_at_call 22; refine (c22' _ _).mono ?_; rintro e w' ⟨rfl, rfl⟩))
                go_ret2
                exact ⟨Or.inr ⟨HH.out, rfl⟩, hB⟩
              · clear hdd
                go_wp2_with (first | (go_at_call 22; refine (c22' _ _).mono ?_; rintro e w' ⟨rfl, rfl⟩))
                go_ret2
                exact ⟨Or.inr ⟨HH.out, rfl⟩, hB⟩
          · clear hv
            by_cases q1 : 48 ≤ a
            · have q2 : 57 < a := by omega
              clear hdd
              go_wp2_with (first | (go_at_call 22; refine (c22' _ _).mono ?_; rintro e w' ⟨rfl, rfl⟩))
              go_ret2
              exact ⟨Or.inr ⟨HH.out, rfl⟩, hB⟩
            · clear hdd
              go_wp2_with (first | (go_at_call 22; refine (c22' _ _).mono ?_; rintro e w' ⟨rfl, rfl⟩))
              go_ret2
              exact ⟨Or.inr ⟨HH.out, rfl⟩, hB⟩
    · go_wp2_with fail
      go_ret2
      refine ⟨Or.inl ⟨by rw [ha]; exact hh, ?_⟩, hB⟩
      rw [ha]
      rfl

theorem c11 (c : UInt8) (w : World) (u1 : TypeId) (p1 : Option Addr) (hg1 : w.cell? ⟨1, 0, none⟩ = some (.iface u1 (.pointer p1))) :
    Calls Tryd.prog 11 #[.string ⟨#[c]⟩, .int .i64 16, .int .i64 64] w fun e w' =>
      ((hex (c.toNat : Int) = true ∧ e = .returned (.tuple #[.int .u64 (val (c.toNat : Int)), .nilIface])) ∨ (hex (c.toNat : Int) = false ∧ ∃ a, e = .returned (.tuple #[.int .u64 0, .iface 39 (.pointer (some a))]))) ∧ Below w.heap.size w w' := by
  go_enter Tryd.func11, Tryd.ntmps11
  go_wp2_with fail
  refine (c16 c _).mono ?_
  rintro e w1 ⟨⟨hh, rfl⟩ | ⟨hh, rfl⟩, hb⟩
  · go_wp2_with fail
    go_ret2
    exact ⟨Or.inl ⟨hh, rfl⟩, hb⟩
  · have hg2 := kept hb hg1
    go_wp2_with fail
    refine (c15 _ ⟨#[c]⟩ 16 64 w1 u1 p1 (by show 1 ≤ _; omega) (by show 1 ≠ _; omega) hg2).mono ?_
    rintro e w2 ⟨⟨a, rfl⟩, hb2⟩
    go_wp2_with fail
    go_ret2
    exact ⟨Or.inr ⟨hh, _, rfl⟩, hb.trans (hb2.mono hb.size)⟩
end Go.Proofs.Qxb6618657aDoor
