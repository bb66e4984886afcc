/-
  evolvent, the card: isHexDigit (12, 8, 5), zzHexVal (6), CutPrefix (17, 13, 9), lower (22), Clone (24).
-/
import Derived.Test.Qxb6618657aDoorProg
import Derived.WalkKit
import Derived.ProofKit
import Derived.WalkLawsBesides
import Derived.WalkSpells
import Derived.Deep.LoopGhost
import Derived.Deep.Light
import Derived.Deep.QuietTactic
import Derived.Deep.RegionHeld3
import Derived.BigQuiet
import Derived.Below
import Derived.Lib.ConvBytes
import Derived.Lib.BufferWrite
import Derived.Shelf.Strconv.Clone
import Derived.Laws.MakeOwn
import Derived.Laws.IdiomStrings
import Derived.Deep.OwnRows
namespace Go.Proofs.Qxb6618657aDoor
open Go.RowKit
set_option linter.unusedVariables false

def dig (a : Int) : Bool := decide (48 ≤ a) && decide (a ≤ 57)
def hex (a : Int) : Bool := dig a || (decide (97 ≤ a) && decide (a ≤ 102)) || (decide (65 ≤ a) && decide (a ≤ 70))
def val (a : Int) : Int := if 48 ≤ a ∧ a ≤ 57 then a - 48 else if 97 ≤ a ∧ a ≤ 102 then a - 97 + 10 else if 65 ≤ a ∧ a ≤ 70 then a - 65 + 10 else -1

theorem c12 (a : Int) (w : World) :
    Calls Tryd.prog 12 #[.int .u8 a] w fun e w' => e = .returned (.bool (dig a)) ∧ w' = w := by
  by_cases h1 : 48 ≤ a <;> by_cases h2 : a ≤ 57
  all_goals
    (go_enter Tryd.func12, Tryd.ntmps12
     go_wp2_with fail
     go_ret
     simp [dig, h1, h2])

theorem c8 (a : Int) (w : World) :
    Calls Tryd.prog 8 #[.int .u8 a] w fun e w' => e = .returned (.bool (hex a)) ∧ w' = w := by
  by_cases h0 : dig a = true
  · go_enter Tryd.func8, Tryd.ntmps8
    go_wp2_with fail
    refine (c12 a _).mono ?_
    rintro e w1 ⟨rfl, rfl⟩
    rw [h0]
    go_wp2_with fail
    go_ret
    simp [hex, h0]
  · have h0' : dig a = false := by simpa using h0
    by_cases h1 : 97 ≤ a <;> by_cases h2 : a ≤ 102 <;> by_cases h3 : 65 ≤ a <;> by_cases h4 : a ≤ 70
    all_goals first | (exfalso; omega) | skip
    all_goals
      (go_enter Tryd.func8, Tryd.ntmps8
       go_wp2_with fail
       refine (c12 a _).mono ?_
       rintro e w1 ⟨rfl, rfl⟩
       rw [h0']
       go_wp2_with fail
       go_ret
       simp [hex, h0', h1, h2, h3, h4]
       try omega)

theorem c5 (a : Int) (w : World) :
    Calls Tryd.prog 5 #[.int .u8 a] w fun e w' => e = .returned (.bool (hex a)) ∧ w' = w := by
  go_enter Tryd.func5, Tryd.ntmps5
  go_wp2_with fail
  refine (c8 a _).mono ?_
  rintro e w1 ⟨rfl, rfl⟩
  go_wp2_with fail
  go_ret
  simp

theorem c6 (a : Int) (w : World) (h0 : 0 ≤ a) (h1 : a ≤ 255) :
    Calls Tryd.prog 6 #[.int .u8 a] w fun e w' => e = .returned (.int .i64 (val a)) ∧ w' = w := by
  by_cases h1 : 48 ≤ a <;> by_cases h2 : a ≤ 57 <;> by_cases h3 : 97 ≤ a <;> by_cases h4 : a ≤ 102 <;> by_cases h5 : 65 ≤ a <;> by_cases h6 : a ≤ 70
  all_goals first | (exfalso; omega) | skip
  all_goals
    (go_enter Tryd.func6, Tryd.ntmps6
     go_wp2_with fail
     go_ret
     refine ⟨?_, rfl⟩
     have e : val a = (if 48 ≤ a ∧ a ≤ 57 then a - 48 else if 97 ≤ a ∧ a ≤ 102 then a - 97 + 10 else if 65 ≤ a ∧ a ≤ 70 then a - 65 + 10 else -1) := rfl
     first
       | (rw [if_pos ⟨by omega, by omega⟩] at e; rw [e]; rfl)
       | (rw [if_neg (by omega), if_pos ⟨by omega, by omega⟩] at e; rw [e]; rfl)
       | (rw [if_neg (by omega), if_neg (by omega), if_pos ⟨by omega, by omega⟩] at e; rw [e]; rfl)
       | (rw [if_neg (by omega), if_neg (by omega), if_neg (by omega)] at e; rw [e]; rfl))

theorem c22 (a : Int) (w : World) :
    Calls Tryd.prog 22 #[.int .u8 a] w fun e w' => e = .returned (.int .u8 (bits BinOp.or IntKind.u8 a 32)) ∧ w' = w := by
  go_enter Tryd.func22, Tryd.ntmps22
  go_wp2_with fail
  go_ret
  simp

theorem ext02 (c : UInt8) : (({ data := #[48, 120, c] } : ByteArray).extract 0 2) = ⟨#[48, 120]⟩ := by
  apply ByteArray.ext
  simp [ByteArray.data_extract]

theorem ext23 (c : UInt8) : (({ data := #[48, 120, c] } : ByteArray).extract 2 3) = ⟨#[c]⟩ := by
  apply ByteArray.ext
  simp [ByteArray.data_extract]

theorem c17 (c : UInt8) (w : World) :
    Calls Tryd.prog 17 #[.string ⟨#[48, 120, c]⟩, .string ⟨#[48, 120]⟩] w fun e w' => e = .returned (.bool true) ∧ w' = w := by
  go_enter Tryd.func17, Tryd.ntmps17
  go_wp2_with fail
  go_ret
  simp [ext02]

theorem c13 (c : UInt8) (w : World) :
    Calls Tryd.prog 13 #[.string ⟨#[48, 120, c]⟩, .string ⟨#[48, 120]⟩] w fun e w' => e = .returned (.tuple #[.string ⟨#[c]⟩, .bool true]) ∧ w' = w := by
  go_enter Tryd.func13, Tryd.ntmps13
  go_wp2_with fail
  refine (c17 c _).mono ?_
  rintro e w1 ⟨rfl, rfl⟩
  go_wp2_with fail
  rw [ext23]
  go_ret2
  exact ⟨rfl, rfl⟩

theorem c9 (c : UInt8) (w : World) :
    Calls Tryd.prog 9 #[.string ⟨#[48, 120, c]⟩, .string ⟨#[48, 120]⟩] w fun e w' => e = .returned (.tuple #[.string ⟨#[c]⟩, .bool true]) ∧ w' = w := by
  go_enter Tryd.func9, Tryd.ntmps9
  go_wp2_with fail
  refine (c13 c _).mono ?_
  rintro e w1 ⟨rfl, rfl⟩
  go_wp2_with fail
  go_ret2
  exact ⟨rfl, rfl⟩

theorem Tryd.info5 : (Tryd.prog.info? 5).map (fun i => (i.zero, i.size, i.bytes)) = some (some (.int .u8 0), 1, 1) := by kernel_rfl
theorem Tryd.size5 : (Tryd.prog.info? 5).map (·.size) = some 1 := by kernel_rfl
theorem Tryd.cells5 : Tryd.prog.cellsOf 5 = 1 := by kernel_rfl

/-- The shelf's numbers, at this dump. -/
def ren : Shelf.Ren := ⟨fun x => if x = 316 then 24 else x, fun x => if x = 37 then 22 else if x = 127 then 49 else x, fun x => x⟩
theorem lays24 : LaysM.n316 Tryd.prog ren where
  mixed := by kernel_rfl
  f316 := by kernel_rfl
  t0 := by kernel_rfl
  a0 := fun w => by show (isAgg 0).run Tryd.prog w = _; simp [go_sem]
  z0 := fun w => by show (Go.sizeOf 0).run Tryd.prog w = _; simp [go_sem]
  v0 := fun w => by show (zeroValue 0).run Tryd.prog w = _; simp [go_sem]
  t3 := Tryd.underlying3
  a3 := fun w => by show (isAgg 3).run Tryd.prog w = _; simp [go_sem]
  z3 := fun w => by show (Go.sizeOf 3).run Tryd.prog w = _; simp [go_sem]
  v3 := fun w => by show (zeroValue 3).run Tryd.prog w = _; simp [go_sem]
  t4 := Tryd.underlying4
  a4 := fun w => by show (isAgg 4).run Tryd.prog w = _; simp [go_sem]
  z4 := fun w => by show (Go.sizeOf 4).run Tryd.prog w = _; simp [go_sem]
  v4 := fun w => by show (zeroValue 4).run Tryd.prog w = _; simp [go_sem]
  t9 := Tryd.underlying9
  a9 := fun w => by show (isAgg 9).run Tryd.prog w = _; simp [go_sem]
  z9 := fun w => by show (Go.sizeOf 9).run Tryd.prog w = _; simp [go_sem]
  v9 := fun w => by show (zeroValue 9).run Tryd.prog w = _; simp [go_sem]
  t37 := Tryd.underlying22
  a37 := fun w => by show (isAgg 22).run Tryd.prog w = _; simp [go_sem]
  z37 := fun w => by show (Go.sizeOf 22).run Tryd.prog w = _; simp [go_sem]
  v37 := fun w => by show (zeroValue 22).run Tryd.prog w = _; simp [go_sem]
  t127 := Tryd.underlying49
  a127 := fun w => by show (isAgg 49).run Tryd.prog w = _; simp [go_sem]
  z127 := fun w => by show (Go.sizeOf 49).run Tryd.prog w = _; simp [go_sem]
  v127 := fun w => by show (zeroValue 49).run Tryd.prog w = _; simp [go_sem]
  t5 := Tryd.underlying5
  a5 := fun w => by show (isAgg 5).run Tryd.prog w = _; simp [go_sem]
  z5 := fun w => by show (Go.sizeOf 5).run Tryd.prog w = _; simp [go_sem]
  v5 := fun w => by show (zeroValue 5).run Tryd.prog w = _; simp [go_sem]
  i0 := by kernel_rfl
  i3 := by kernel_rfl
  i4 := by kernel_rfl
  i5 := by kernel_rfl
  i9 := by kernel_rfl
  i37 := by kernel_rfl
  i127 := by kernel_rfl

theorem c24 (s : ByteArray) (w : World) (hlim : s.size ≤ 281474976710656) (h0 : s.size ≠ 0) :
    Calls Tryd.prog 24 #[.string s] w fun e w' => e = .returned (.string s) ∧ Below w.heap.size w w' :=
  Any.stringslite_Clone lays24 s w hlim

theorem lt_of_cell {w : World} {b o : Nat} {v : Value} (h : w.cell? ⟨b, o, none⟩ = some v) : b < w.heap.size := by
  rcases Nat.lt_or_ge b w.heap.size with h' | h'
  · exact h'
  · simp [World.cell?, Array.getElem?_eq_none h'] at h

theorem kept {w w' : World} {b o : Nat} {v : Value} (hb : Below w.heap.size w w') (h : w.cell? ⟨b, o, none⟩ = some v) : w'.cell? ⟨b, o, none⟩ = some v := by
  rw [← h]
  exact hb.cell (p := ⟨b, o, none⟩) (lt_of_cell h)

theorem c18 (f s : ByteArray) (w : World) (u1 : TypeId) (p1 : Option Addr) (hlim : s.size ≤ 281474976710656) (h0 : s.size ≠ 0) (hg1 : w.cell? ⟨1, 0, none⟩ = some (.iface u1 (.pointer p1))) :
    Calls Tryd.prog 18 #[.string f, .string s] w fun e w' => (∃ a, e = .returned (.pointer (some a))) ∧ Below w.heap.size w w' := by
  have hd : w.drew.cell? ⟨1, 0, none⟩ = some (.iface u1 (.pointer p1)) := hg1
  go_enter Tryd.func18, Tryd.ntmps18
  go_wp2_with fail
  go_region_held3 (fun w' => w'.cell? ⟨1, 0, none⟩ = some (.iface u1 (.pointer p1))) (first | go_keep | exact kept hb hd) (first | (go_at_call 24; refine (c24 s _ hlim h0).mono ?_; rintro e w1 ⟨rfl, hb⟩))
  go_wp2_with fail
  go_ret
  have hb' : Below w.heap.size w w1 := ⟨hb.os, hb.tape, hb.output, hb.size, hb.block⟩
  exact ⟨⟨_, rfl⟩, hb'.alloc hb'.size _⟩
end Go.Proofs.Qxb6618657aDoor
