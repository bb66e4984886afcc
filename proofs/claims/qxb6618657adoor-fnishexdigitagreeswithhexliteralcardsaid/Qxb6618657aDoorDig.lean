/-
  evolvent, the card: isHexDigit (12, 8, 5), zzHexVal (6), CutPrefix (17, 13, 9), lower (22), Clone (24).
-/
import Derived.Test.Qxb6618657aDoorProg
import Derived.WalkKit
import Derived.ProofKit
import Derived.WalkLawsBesides
import Derived.WalkSpells
import Derived.Deep.LoopGhost
import Derived.Deep.Light
import Derived.Deep.QuietTactic
import Derived.Deep.RegionHeld3
import Derived.BigQuiet
import Derived.Below
import Derived.Lib.ConvBytes
import Derived.Lib.BufferWrite
import Derived.Lib.UnsafeStr
import Derived.Laws.MakeOwn
import Derived.Laws.IdiomStrings
import Derived.Deep.OwnRows
namespace Go.Proofs.Qxb6618657aDoor
open Go.RowKit
set_option linter.unusedVariables false

def dig (a : Int) : Bool := decide (48 ≤ a) && decide (a ≤ 57)
def hex (a : Int) : Bool := dig a || (decide (97 ≤ a) && decide (a ≤ 102)) || (decide (65 ≤ a) && decide (a ≤ 70))
def val (a : Int) : Int := if 48 ≤ a ∧ a ≤ 57 then a - 48 else if 97 ≤ a ∧ a ≤ 102 then a - 97 + 10 else if 65 ≤ a ∧ a ≤ 70 then a - 65 + 10 else -1

theorem c12 (a : Int) (w : World) :
    Calls Tryd.prog 12 #[.int .u8 a] w fun e w' => e = .returned (.bool (dig a)) ∧ w' = w := by
  by_cases h1 : 48 ≤ a <;> by_cases h2 : a ≤ 57
  all_goals
    (go_enter Tryd.func12, Tryd.ntmps12
     go_wp2_with fail
     go_ret
     simp [dig, h1, h2])

theorem c8 (a : Int) (w : World) :
    Calls Tryd.prog 8 #[.int .u8 a] w fun e w' => e = .returned (.bool (hex a)) ∧ w' = w := by
  by_cases h0 : dig a = true
  · go_enter Tryd.func8, Tryd.ntmps8
    go_wp2_with fail
    refine (c12 a _).mono ?_
    rintro e w1 ⟨rfl, rfl⟩
    rw [h0]
    go_wp2_with fail
    go_ret
    simp [hex, h0]
  · have h0' : dig a = false := by simpa using h0
    by_cases h1 : 97 ≤ a <;> by_cases h2 : a ≤ 102 <;> by_cases h3 : 65 ≤ a <;> by_cases h4 : a ≤ 70
    all_goals first | (exfalso; omega) | skip
    all_goals
      (go_enter Tryd.func8, Tryd.ntmps8
       go_wp2_with fail
       refine (c12 a _).mono ?_
       rintro e w1 ⟨rfl, rfl⟩
       rw [h0']
       go_wp2_with fail
       go_ret
       simp [hex, h0', h1, h2, h3, h4]
       try omega)

theorem c5 (a : Int) (w : World) :
    Calls Tryd.prog 5 #[.int .u8 a] w fun e w' => e = .returned (.bool (hex a)) ∧ w' = w := by
  go_enter Tryd.func5, Tryd.ntmps5
  go_wp2_with fail
  refine (c8 a _).mono ?_
  rintro e w1 ⟨rfl, rfl⟩
  go_wp2_with fail
  go_ret
  simp

theorem c6 (a : Int) (w : World) (h0 : 0 ≤ a) (h1 : a ≤ 255) :
    Calls Tryd.prog 6 #[.int .u8 a] w fun e w' => e = .returned (.int .i64 (val a)) ∧ w' = w := by
  by_cases h1 : 48 ≤ a <;> by_cases h2 : a ≤ 57 <;> by_cases h3 : 97 ≤ a <;> by_cases h4 : a ≤ 102 <;> by_cases h5 : 65 ≤ a <;> by_cases h6 : a ≤ 70
  all_goals first | (exfalso; omega) | skip
  all_goals
    (go_enter Tryd.func6, Tryd.ntmps6
     go_wp2_with fail
     go_ret
     refine ⟨?_, rfl⟩
     have e : val a = val a := rfl
     conv at e => rhs; unfold val
     first
       | (rw [if_pos ⟨by omega, by omega⟩] at e; rw [e]; rfl)
       | (rw [if_neg (by omega), if_pos ⟨by omega, by omega⟩] at e; rw [e]; rfl)
       | (rw [if_neg (by omega), if_neg (by omega), if_pos ⟨by omega, by omega⟩] at e; rw [e]; rfl)
       | (rw [if_neg (by omega), if_neg (by omega), if_neg (by omega)] at e; rw [e]; rfl))

theorem c22 (a : Int) (w : World) :
    Calls Tryd.prog 22 #[.int .u8 a] w fun e w' => e = .returned (.int .u8 (bits BinOp.or IntKind.u8 a 32)) ∧ w' = w := by
  go_enter Tryd.func22, Tryd.ntmps22
  go_wp2_with fail
  go_ret
  simp

theorem ext02 (c : UInt8) : (({ data := #[48, 120, c] } : ByteArray).extract 0 2) = ⟨#[48, 120]⟩ := by
  apply ByteArray.ext
  simp [ByteArray.data_extract]

theorem ext23 (c : UInt8) : (({ data := #[48, 120, c] } : ByteArray).extract 2 3) = ⟨#[c]⟩ := by
  apply ByteArray.ext
  simp [ByteArray.data_extract]

theorem c17 (c : UInt8) (w : World) :
    Calls Tryd.prog 17 #[.string ⟨#[48, 120, c]⟩, .string ⟨#[48, 120]⟩] w fun e w' => e = .returned (.bool true) ∧ w' = w := by
  go_enter Tryd.func17, Tryd.ntmps17
  go_wp2_with fail
  go_ret
  simp [ext02]

theorem c13 (c : UInt8) (w : World) :
    Calls Tryd.prog 13 #[.string ⟨#[48, 120, c]⟩, .string ⟨#[48, 120]⟩] w fun e w' => e = .returned (.tuple #[.string ⟨#[c]⟩, .bool true]) ∧ w' = w := by
  go_enter Tryd.func13, Tryd.ntmps13
  go_wp2_with fail
  refine (c17 c _).mono ?_
  rintro e w1 ⟨rfl, rfl⟩
  go_wp2_with fail
  rw [ext23]
  go_ret2
  exact ⟨rfl, rfl⟩

theorem c9 (c : UInt8) (w : World) :
    Calls Tryd.prog 9 #[.string ⟨#[48, 120, c]⟩, .string ⟨#[48, 120]⟩] w fun e w' => e = .returned (.tuple #[.string ⟨#[c]⟩, .bool true]) ∧ w' = w := by
  go_enter Tryd.func9, Tryd.ntmps9
  go_wp2_with fail
  refine (c13 c _).mono ?_
  rintro e w1 ⟨rfl, rfl⟩
  go_wp2_with fail
  go_ret2
  exact ⟨rfl, rfl⟩

theorem Tryd.info5 : (Tryd.prog.info? 5).map (fun i => (i.zero, i.size, i.bytes)) = some (some (.int .u8 0), 1, 1) := by kernel_rfl
theorem Tryd.size5 : (Tryd.prog.info? 5).map (·.size) = some 1 := by kernel_rfl
theorem Tryd.cells5 : Tryd.prog.cellsOf 5 = 1 := by kernel_rfl

set_option maxHeartbeats 1000000 in
theorem c24 (s : ByteArray) (w : World) (hlim : s.size ≤ 281474976710656) (h0 : s.size ≠ 0) :
    Calls Tryd.prog 24 #[.string s] w fun e w' => e = .returned (.string s) ∧ Below w.heap.size w w' := by
  obtain ⟨M, hM⟩ : ∃ M, M = madeCells #[Value.int .u8 0] s.size := ⟨_, rfl⟩
  have hMs : M.size = s.size := by rw [hM, size_madeCells]
  have hmk : ∀ W : World, (Instr.makeSlice 22 (.int .i64 (s.size : Int)) (.int .i64 (s.size : Int))).run Tryd.prog W = .ok (.slice (some ⟨W.heap.size, 0, none⟩) s.size s.size) (W.alloc (.cells M 5)) := fun W => by
    have h := run_make_row' (P := Tryd.prog) 22 5 (.int .u8 0) 1 Tryd.underlying22 Tryd.info5 rfl .i64 .i64 s.size (by omega) (by omega) W
    rw [← hM] at h
    exact h
  clear hM
  have hcp := Lib.run_copy_row_string (P := Tryd.prog) (w.alloc (.cells M 5)) 22 9 3 5 w.heap.size 0 s.size s.size s M 5 Tryd.underlying22 Tryd.size5 (heap_alloc_new w _) (Nat.le_refl _) (by omega)
  obtain ⟨Y, hY⟩ : ∃ Y, Y = (M.toList.take 0 ++ Lib.byteCells s.data.toList ++ M.toList.drop (0 + s.size)).toArray := ⟨_, rfl⟩
  rw [← hY] at hcp
  have hYl : Y.toList = Lib.byteCells s.data.toList := by
    rw [hY, List.toList_toArray, List.take_zero, List.nil_append, List.drop_of_length_le (by rw [Array.length_toList]; omega), List.append_nil]
  have hYs : Y.size = s.size := by rw [← Array.length_toList, hYl, Lib.byteCells_length, ← Lib.size_eq]
  have hgY : ((w.alloc (.cells M 5)).setRow w.heap.size Y).heap[w.heap.size]? = some (.cells Y 5 (0, 0)) := setRow_heap _ _ M _ 5 (0, 0) (heap_alloc_new w _)
  have hne : s.data.toList ≠ [] := fun e => h0 (by rw [Lib.size_eq, e]; rfl)
  have hUS := Lib.run_unsafeString_row (P := Tryd.prog) ((w.alloc (.cells M 5)).setRow w.heap.size Y) 49 3 9 5 Tryd.underlying49 Tryd.cells5 w.heap.size Y.size (by unfold World.shape?; rw [hgY]) s.data.toList hne (by rw [← Lib.size_eq]; omega) (by rw [← Lib.size_eq]; omega)
    (fun j x hx => Lib.cells_of_row hgY Y.size j _ (by rw [List.take_of_length_le (by rw [Array.length_toList]; exact Nat.le_refl _), hYl]; simp [Lib.byteCells, hx]))
  rw [← Lib.size_eq] at hUS
  clear hY
  go_enter Tryd.func24, Tryd.ntmps24
  go_wp2_with fail
  go_ret
  have hb1 : Below w.heap.size w (w.alloc (.cells M 5)) := (Below.refl _ w).alloc (Nat.le_refl _) _
  have hb2 : Below w.heap.size (w.alloc (.cells M 5)) ((w.alloc (.cells M 5)).setRow w.heap.size Y) := ⟨rfl, rfl, rfl, by simp, fun k hk => setRow_other _ _ _ _ (by omega)⟩
  exact ⟨rfl, Lib.below_freeze (hb1.trans hb2) (p := ⟨w.heap.size, 0, none⟩) (Nat.le_refl _) _⟩

theorem lt_of_cell {w : World} {b o : Nat} {v : Value} (h : w.cell? ⟨b, o, none⟩ = some v) : b < w.heap.size := by
  rcases Nat.lt_or_ge b w.heap.size with h' | h'
  · exact h'
  · simp [World.cell?, Array.getElem?_eq_none h'] at h

theorem kept {w w' : World} {b o : Nat} {v : Value} (hb : Below w.heap.size w w') (h : w.cell? ⟨b, o, none⟩ = some v) : w'.cell? ⟨b, o, none⟩ = some v := by
  rw [← h]
  exact hb.cell (p := ⟨b, o, none⟩) (lt_of_cell h)

theorem c18 (f s : ByteArray) (w : World) (u1 : TypeId) (p1 : Option Addr) (hlim : s.size ≤ 281474976710656) (h0 : s.size ≠ 0) (hg1 : w.cell? ⟨1, 0, none⟩ = some (.iface u1 (.pointer p1))) :
    Calls Tryd.prog 18 #[.string f, .string s] w fun e w' => (∃ a, e = .returned (.pointer (some a))) ∧ Below w.heap.size w w' := by
  have hd : w.drew.cell? ⟨1, 0, none⟩ = some (.iface u1 (.pointer p1)) := hg1
  go_enter Tryd.func18, Tryd.ntmps18
  go_wp2_with fail
  go_region_held3 (fun w' => w'.cell? ⟨1, 0, none⟩ = some (.iface u1 (.pointer p1))) (first | go_keep | exact kept hb hd) (first | (go_at_call 24; refine (c24 s _ hlim h0).mono ?_; rintro e w1 ⟨rfl, hb⟩))
  go_wp2_with fail
  go_ret
  have hb' : Below w.heap.size w w1 := ⟨hb.os, hb.tape, hb.output, hb.size, hb.block⟩
  exact ⟨⟨_, rfl⟩, hb'.alloc hb'.size _⟩
end Go.Proofs.Qxb6618657aDoor
