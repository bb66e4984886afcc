/-
  evolvent, the card: intValue (7, 4) and the law (3).
-/
import Derived.Test.Qxb6618657aDoorParse
namespace Go.Proofs.Qxb6618657aDoor
open Go.RowKit
set_option linter.unusedVariables false

theorem val_range {a : Int} (h : hex a = true) : 0 ≤ val a ∧ val a ≤ 15 := by
  simp [hex, dig] at h
  unfold val
  split
  · omega
  · split
    · omega
    · split <;> omega

theorem below_drewN' {B : Nat} {a w : World} (h : Below B a w) (n : Nat) : Below B a (w.drewN n) := ⟨h.os, h.tape, h.output, h.size, h.block⟩

def Valued (c : UInt8) (v0 : Value) (w : World) (e : Ending) (w' : World) : Prop :=
  ((hex (c.toNat : Int) = true ∧ e = .returned (.tuple #[.int .i64 (val (c.toNat : Int)), .nilIface])) ∨ (hex (c.toNat : Int) = false ∧ e = .returned (.tuple #[.int .i64 0, v0]))) ∧ Below w.heap.size w w'

set_option maxRecDepth 100000 in
theorem c7 (c : UInt8) (w : World) (u0 : TypeId) (p0 : Option Addr) (u1 : TypeId) (p1 : Option Addr) (hg0 : w.cell? ⟨0, 0, none⟩ = some (.iface u0 (.pointer p0))) (hg1 : w.cell? ⟨1, 0, none⟩ = some (.iface u1 (.pointer p1))) :
    Calls Tryd.prog 7 #[.string ⟨#[48, 120, c]⟩] w (Valued c (.iface u0 (.pointer p0)) w) := by
  have h48 : ∀ h, (({ data := #[48, 120, c] } : ByteArray)[0]'h) = 48 := fun h => rfl
  have h49 : ((48 : UInt8).toNat : Int) = 48 := rfl
  go_enter Tryd.func7, Tryd.ntmps7
  go_wp2_with fail
  refine (c9 c _).mono ?_
  rintro e w ⟨rfl, rfl⟩
  go_wp2_with fail
  refine (c11 c _ u1 p1 hg1).mono ?_
  rintro e w1 ⟨⟨hh, rfl⟩ | ⟨hh, a, rfl⟩, hb⟩
  · obtain ⟨r0, r1⟩ := val_range hh
    have HH := And.intro hh hb
    have HH' : Hid (hex (c.toNat : Int) = true ∧ Below w.heap.size w w1) := HH
    clear HH hh hb
    have ne1 : (val (c.toNat : Int) == 9223372036854775808) = false := by simp; omega
    go_wp2_with fail
    go_ret2
    exact ⟨Or.inl ⟨HH'.out.1, rfl⟩, HH'.out.2⟩
  · have hg2 := kept hb hg0
    have HH' : Hid (hex (c.toNat : Int) = false ∧ Below w.heap.size w w1) := ⟨hh, hb⟩
    clear hh hb hg0 hg1
    go_wp2_with fail
    go_quiet (fail)
    go_wp2_with fail
    go_ret2
    exact ⟨Or.inr ⟨HH'.out.1, rfl⟩, below_drewN' HH'.out.2 _⟩

theorem c4 (c : UInt8) (w : World) (u0 : TypeId) (p0 : Option Addr) (u1 : TypeId) (p1 : Option Addr) (hg0 : w.cell? ⟨0, 0, none⟩ = some (.iface u0 (.pointer p0))) (hg1 : w.cell? ⟨1, 0, none⟩ = some (.iface u1 (.pointer p1))) :
    Calls Tryd.prog 4 #[.string ⟨#[48, 120, c]⟩] w (Valued c (.iface u0 (.pointer p0)) w) := by
  go_enter Tryd.func4, Tryd.ntmps4
  go_wp2_with fail
  refine (c7 c _ u0 p0 u1 p1 hg0 hg1).mono ?_
  rintro e w1 ⟨⟨hh, rfl⟩ | ⟨hh, rfl⟩, hb⟩
  · go_wp2_with fail
    go_ret2
    exact ⟨Or.inl ⟨hh, rfl⟩, hb⟩
  · go_wp2_with fail
    go_ret2
    exact ⟨Or.inr ⟨hh, rfl⟩, hb⟩

theorem walk (c : UInt8) (w : World) (u0 : TypeId) (p0 : Option Addr) (u1 : TypeId) (p1 : Option Addr) (hg0 : w.cell? ⟨0, 0, none⟩ = some (.iface u0 (.pointer p0))) (hg1 : w.cell? ⟨1, 0, none⟩ = some (.iface u1 (.pointer p1))) :
    Calls Tryd.prog 3 #[.int .u8 (c.toNat : Int)] w fun e w' => e = .returned (.bool true) ∧ Below w.heap.size w w' := by
  have hb0 : Below w.heap.size w (w.alloc (.cells #[.int .u8 48, .int .u8 120, .int .u8 (c.toNat : Int)] 5)) := (Below.refl _ w).alloc (Nat.le_refl _) _
  have hconv := run_convert_bytes_back (P := Tryd.prog) (w.alloc (.cells #[.int .u8 48, .int .u8 120, .int .u8 (c.toNat : Int)] 5)) 22 9 5 ⟨w.heap.size, 0, none⟩ 3 [48, 120, c] Tryd.underlying22 Tryd.underlying5 Tryd.underlying9 (fun j hj => by
    match j, hj with
    | 0, _ => simp [Addr.add]
    | 1, _ => simp [Addr.add]
    | 2, _ => simp [Addr.add])
  have e3 : ([48, 120, c] : List UInt8).length = 3 := rfl
  rw [e3] at hconv
  have e4 : ([48, 120, c] : List UInt8).toArray = #[48, 120, c] := rfl
  rw [e4] at hconv
  clear e3 e4
  go_enter Tryd.func3, Tryd.ntmps3
  go_wp2_with fail
  refine (c4 c _ u0 p0 u1 p1 (kept hb0 hg0) (kept hb0 hg1)).mono ?_
  rintro e w1 ⟨⟨hh, rfl⟩ | ⟨hh, rfl⟩, hb⟩
  · have hB := hb0.trans (hb.mono (by simp))
    have hc0 : 0 ≤ (c.toNat : Int) ∧ (c.toNat : Int) ≤ 255 := ⟨by omega, by have := c.toNat_lt; omega⟩
    have HB : Hid (Below w.heap.size w w1) := hB
    clear hconv hb hb0 hg0 hg1 hB
    go_wp2_with fail
    refine (c5 _ _).mono ?_
    rintro e w1 ⟨rfl, rfl⟩
    rw [hh]
    go_wp2_with fail
    refine (c6 _ _ hc0.1 hc0.2).mono ?_
    rintro e w1 ⟨rfl, rfl⟩
    go_wp2_with fail
    go_ret
    exact ⟨rfl, HB.out⟩
  · have hB := hb0.trans (hb.mono (by simp))
    have HB : Hid (Below w.heap.size w w1) := hB
    clear hconv hb hb0 hg0 hg1 hB
    go_wp2_with fail
    refine (c5 _ _).mono ?_
    rintro e w1 ⟨rfl, rfl⟩
    rw [hh]
    go_wp2_with fail
    go_ret
    exact ⟨rfl, HB.out⟩
end Go.Proofs.Qxb6618657aDoor
