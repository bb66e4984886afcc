/-
  leeway: WHAT THE ROWS OPEN: a slice of strings, a slice of int64.
-/
import Derived.Test.Qxb6618655aRows
import Derived.Test.Qxb6618655aKnown
import Derived.ProofKit
import Derived.OpenShut
import Derived.ShutString
import Derived.ChangeOld
import Derived.Below
import Derived.SliceStrings
namespace Go.Proofs.Qxb6618655a
open Go.ChangeShapes Go.WideShapes Go.ChangeAt Go.RowKit
set_option linter.unusedVariables false

theorem own : ownKnob Try.prog.godebug = none := by kernel_rfl
theorem laidOut : laidOutB Try.prog = true := by kernel_rfl
theorem cells9 : Try.prog.cellsOf 9 = 1 := by kernel_rfl
theorem cells2 : Try.prog.cellsOf 2 = 1 := by kernel_rfl

theorem add_plain (b o r : Nat) : (⟨b, o, none⟩ : Addr).add r = ⟨b, o + r, none⟩ := by
  unfold Addr.add
  split
  · rename_i h; simp_all
  · rfl

theorem keys_of {H : Type} {enc : TypeId × Value → H} {w : World} {d : DataW H} {p : List MemPlace} {a0 : Option Addr} {len cap : Nat} (h : DataW.Trod enc Try.prog w 0 (fun _ => true) true 28 (.slice a0 len cap) d p) :
    ∃ (gb go : Nat) (K : Nat → ByteArray), Keys w a0 gb go len K ∧ len ≤ maxLen ∧ (∀ r, r < len → (K r).size ≤ maxLen) := by
  obtain ⟨fuel, hf⟩ := h
  rcases open_strings Try.underlying28 Try.underlying9 cells9 hf with ⟨hcs, hx⟩ | ⟨a, l, c, ss, hcs, _, hl, hm, hz, hx, hcell, hws⟩
  · simp [Value.cells] at hcs
    obtain ⟨rfl, rfl, rfl⟩ := hcs
    exact ⟨0, 0, fun _ => ByteArray.empty, ⟨fun h => absurd h (Nat.lt_irrefl _), fun r h => absurd h (Nat.not_lt_zero _)⟩, Nat.zero_le _, fun r h => absurd h (Nat.not_lt_zero _)⟩
  · simp [Value.cells] at hcs
    obtain ⟨rfl, rfl, rfl⟩ := hcs
    simp only [if_true] at hz
    obtain ⟨b, o, sp⟩ := a
    have hsp : 0 < len → sp = none := fun h0 => by
      have := World.cell?_spot (hcell 0 (by omega))
      simpa [Addr.add] using this
    refine ⟨b, o, fun r => ss.getD r ByteArray.empty, ⟨fun h0 => by rw [hsp h0], fun r hr => ?_⟩, Nat.le_trans hl hm, fun r hr => ?_⟩
    · obtain rfl := hsp (by omega)
      have := hcell r (by omega)
      rw [add_plain] at this
      exact this
    · have hlt : r < ss.length := by omega
      refine hws _ ?_
      simp [List.getD, List.getElem?_eq_getElem hlt]

theorem vals_of {H : Type} {enc : TypeId × Value → H} {w : World} {d : DataW H} {p : List MemPlace} {a0 : Option Addr} {len cap : Nat} (h : DataW.Trod enc Try.prog w 0 (fun _ => true) true 29 (.slice a0 len cap) d p) :
    ∃ (vb vo : Nat) (V : Nat → Int), Vals w a0 vb vo len V ∧ len ≤ maxLen := by
  obtain ⟨fuel, hf⟩ := h
  rcases open_ints Try.underlying29 Try.underlying2 cells2 hf with ⟨hcs, hx⟩ | ⟨a, l, c, zs, hcs, _, hl, hm, hz, hx, hcell, hws⟩
  · simp [Value.cells] at hcs
    obtain ⟨rfl, rfl, rfl⟩ := hcs
    exact ⟨0, 0, fun _ => 0, ⟨fun h => absurd h (Nat.lt_irrefl _), fun r h => absurd h (Nat.not_lt_zero _)⟩, Nat.zero_le _⟩
  · simp [Value.cells] at hcs
    obtain ⟨rfl, rfl, rfl⟩ := hcs
    simp only [if_true] at hz
    obtain ⟨b, o, sp⟩ := a
    have hsp : 0 < len → sp = none := fun h0 => by
      have := World.cell?_spot (hcell 0 (by omega))
      simpa [Addr.add] using this
    refine ⟨b, o, fun r => zs.getD r 0, ⟨fun h0 => by rw [hsp h0], fun r hr => ⟨?_, ?_⟩⟩, Nat.le_trans hl hm⟩
    · obtain rfl := hsp (by omega)
      have := hcell r (by omega)
      rw [add_plain] at this
      exact this
    · have hlt : r < zs.length := by omega
      refine hws _ ?_
      simp [List.getD, List.getElem?_eq_getElem hlt]

end Go.Proofs.Qxb6618655a
