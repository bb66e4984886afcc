/-
  THE ROW OF FnCopyOfCopyOfArraysIsEqualAndApart.
-/
import Derived.Test.Qxb6618627aRows
import Derived.Test.Qxb6618627aWalkArr
import Derived.ProofKit
import Derived.OpenShut
import Derived.ShutString
import Derived.ChangeOld
import Derived.Below
import Derived.SliceStrings
import Derived.Deep.Slices
namespace Go.Proofs.Qxb6618627a.CopyOfCopy
open Go.ChangeShapes Go.WideShapes Go.ChangeAt Go.RowKit Go.Deep
set_option linter.unusedVariables false

theorem own : ownKnob Try.prog.godebug = none := by kernel_rfl
theorem laidOut : laidOutB Try.prog = true := by kernel_rfl
theorem cells27 : Try.prog.cellsOf 27 = 1 := by kernel_rfl
theorem cells9 : Try.prog.cellsOf 9 = 1 := by kernel_rfl

section
variable {H : Type} {enc : TypeId × Value → H} {P : Program} {w : World} {base : Nat} {held : Bool}

/-- A slice of slices of strings, opened. -/
theorem open_str_rows {t e q : TypeId} {fuel : Nat} {cs : List Value} {x : DataW H × List MemPlace} (ht : P.underlying t = some (.slice e)) (he : P.underlying e = some (.slice q)) (hq : P.underlying q = some .string)
    (ce : P.cellsOf e = 1) (cq : P.cellsOf q = 1) (h : DataW.trod enc P w base (fun _ => true) held fuel t cs = some x) :
    (cs = [.slice none 0 0]) ∨
    ∃ (a : Addr) (len cap : Nat) (A : Nat → Option Addr) (L C : Nat → Nat) (Z : Nat → List ByteArray), cs = [.slice (some a) len cap] ∧ len ≤ cap ∧ cap ≤ maxLen ∧
      ∀ r, r < cap → w.cell? (a.add r) = some (.slice (A r) (L r) (C r)) ∧ L r ≤ C r ∧ C r ≤ maxLen ∧ (Z r).length = C r ∧ (∀ s ∈ Z r, s.size ≤ maxLen) ∧ (A r = none → C r = 0) ∧
        ∀ a', A r = some a' → ∀ c, c < C r → w.cell? (a'.add c) = some (.string ((Z r).getD c ByteArray.empty)) := by
  rcases open_slice1 ht ce h with h0 | ⟨a, len, cap, m, n, V, D, Pl, rfl, hb, hl, hm, hmm, rfl, hx⟩
  · exact Or.inl h0.1
  right
  simp only [if_true] at hmm
  have hmm' := hmm.symm
  subst hmm'
  have each : ∀ r, r < cap → ∃ y : Option Addr × Nat × Nat × List ByteArray, V r = .slice y.1 y.2.1 y.2.2.1 ∧ y.2.1 ≤ y.2.2.1 ∧ y.2.2.1 ≤ maxLen ∧ y.2.2.2.length = y.2.2.1 ∧
      (∀ s ∈ y.2.2.2, s.size ≤ maxLen) ∧ (y.1 = none → y.2.2.1 = 0) ∧ ∀ a', y.1 = some a' → ∀ c, c < y.2.2.1 → w.cell? (a'.add c) = some (.string (y.2.2.2.getD c ByteArray.empty)) := by
    intro r hr
    rcases open_strings he hq cq (hx r hr).2 with ⟨hcs, hy⟩ | ⟨a', len', cap', zs, hcs, hb', hl', hm', hz, hy, hcell, hwz⟩
    · exact ⟨(none, 0, 0, []), by simpa using hcs, Nat.le_refl _, Nat.zero_le _, rfl, by simp, fun _ => rfl, fun _ hh => by cases hh⟩
    · simp only [if_true] at hz
      refine ⟨(some a', len', cap', zs), by simpa using hcs, hl', hm', hz, hwz, (fun hh => by cases hh), fun a'' hh => ?_⟩
      cases hh
      exact fun c hc => hcell c (by rw [hz]; exact hc)
  obtain ⟨y, hy⟩ := choose_lt each
  refine ⟨a, len, cap, fun r => (y r).1, fun r => (y r).2.1, fun r => (y r).2.2.1, fun r => (y r).2.2.2, rfl, hl, hm, fun r hr => ?_⟩
  obtain ⟨e1, r1, r2, r3, r4, r5, r6⟩ := hy r hr
  exact ⟨by rw [(hx r hr).1, e1], r1, r2, r3, r4, r5, r6⟩
end

theorem add_plain (b o r : Nat) : (⟨b, o, none⟩ : Addr).add r = ⟨b, o + r, none⟩ := by
  unfold Addr.add
  split
  · rename_i h; simp_all
  · rfl

/-- What the walk is told of the argument. -/
theorem inp_of {H : Type} {enc : TypeId × Value → H} {w : World} {d : DataW H} {p : List MemPlace} {a0 : Option Addr} {len cap : Nat} (h : DataW.Trod enc Try.prog w 0 (fun _ => true) true 42 (.slice a0 len cap) d p) :
    ∃ (gb go : Nat) (A : Nat → Option Addr) (L C RB RO : Nat → Nat) (S : Nat → Nat → ByteArray), Inp w a0 gb go len A L C RB RO S ∧ len ≤ maxLen ∧ (∀ r, r < len → L r ≤ maxLen) ∧ (∀ r, r < len → ∀ c, c < L r → (S r c).size ≤ maxLen) := by
  obtain ⟨fuel, hf⟩ := h
  rcases open_str_rows Try.underlying42 Try.underlying27 Try.underlying9 cells27 cells9 hf with hcs | ⟨a, l, c, A, L, C, Z, hcs, hl, hm, hr⟩
  · simp [Value.cells] at hcs
    obtain ⟨rfl, rfl, rfl⟩ := hcs
    exact ⟨0, 0, fun _ => none, fun _ => 0, fun _ => 0, fun _ => 0, fun _ => 0, fun _ _ => ByteArray.empty, ⟨fun h => absurd h (Nat.lt_irrefl _), fun r h => absurd h (Nat.not_lt_zero _), fun r h => absurd h (Nat.not_lt_zero _)⟩, Nat.zero_le _, fun r h => absurd h (Nat.not_lt_zero _), fun r h => absurd h (Nat.not_lt_zero _)⟩
  · simp [Value.cells] at hcs
    obtain ⟨rfl, rfl, rfl⟩ := hcs
    obtain ⟨b, off, spot⟩ := a
    refine ⟨b, off, A, L, C, fun r => ((A r).map (·.block)).getD 0, fun r => ((A r).map (·.off)).getD 0, fun r c => (Z r).getD c ByteArray.empty, ⟨fun h0 => ?_, fun r hrl => ?_, fun r hrl c hc => ?_⟩, Nat.le_trans hl hm, fun r hrl => ?_, fun r hrl c hc => ?_⟩
    · have := World.cell?_spot (hr 0 (by omega)).1
      simp [Addr.add] at this
      subst this; rfl
    · have hspot := World.cell?_spot (hr 0 (by omega)).1
      simp [Addr.add] at hspot
      subst hspot
      have := (hr r (by omega)).1
      simpa [add_plain] using this
    · obtain ⟨h1, h2, h3, h4, h5, h6, h7⟩ := hr r (by omega)
      cases hA : A r with
      | none => have := h6 hA; omega
      | some a' =>
        obtain ⟨b', off', spot'⟩ := a'
        have hc' := h7 _ hA c (by omega)
        have hspot := World.cell?_spot (h7 _ hA 0 (by omega))
        simp [Addr.add] at hspot
        subst hspot
        exact ⟨by simp, by simpa [add_plain] using hc'⟩
    · have := (hr r (by omega)).2; omega
    · obtain ⟨h1, h2, h3, h4, h5, h6, h7⟩ := hr r (by omega)
      refine h5 _ ?_
      have hlt : c < (Z r).length := by omega
      simp [List.getD, List.getElem?_eq_getElem hlt]

set_option maxRecDepth 100000 in
theorem lifted (os : Os) (started : os.Started) (H : Type) (enc : TypeId × Value → H) :
    ReturnsInHanded {} Try.checked os 4 .any (Rows.fnCopyOfCopyOfArraysIsEqualAndApartSpec.pre6 enc Try.prog Try.f4 Rows.fnCopyOfCopyOfArraysIsEqualAndApartRow.domain false) (Rows.fnCopyOfCopyOfArraysIsEqualAndApartSpec.post enc Try.prog Try.f4 false true false false) := by
  refine returnsInHanded_of_change (C := Try.checked) own started (by kernel_rfl) Try.func4
    (ChangeSpec.witness6 (enc := enc) (C := Try.checked) false ⟨#[], #[.slice none 0 0], []⟩ 8 (by kernel_rfl) (by kernel_rfl) (by kernel_rfl) (by kernel_rfl)) ?_
  intro W base args ds gs before hval0 hW hcnd _
  have hval : ∀ (j : Nat) t v, Try.f4.params[j]? = some t → args[j]? = some v → Value.okWide Try.prog W .any base t v := hval0
  have hW' := hW
  obtain ⟨p, q, hA0, hV, rfl, hfz, hnd⟩ := hW
  have hA : DataW.TrodAll enc Try.prog W 0 (fun _ => true) true Try.f4.params.toList args.toList ds p := hA0
  rw [Try.params4] at hA hval
  obtain ⟨v0, vs0, d0, ds0, p0, q0, hargs, rfl, rfl, h0, r0⟩ := trodAll_cons hA
  obtain ⟨rfl, rfl, rfl⟩ := trodAll_nil r0
  obtain rfl : args = #[v0] := by cases args; simp_all
  obtain ⟨rfl, rfl⟩ := trodVars_none hV
  obtain ⟨a0, len0, cap0, rfl⟩ := okWide_slice Try.underlying42 (hval 0 42 v0 rfl rfl)
  have k0 := h0
  have lt0 : ∀ x ∈ p0, x.block < W.heap.size := by obtain ⟨m, hm⟩ := k0; exact DataW.trod_lt m _ _ _ hm
  obtain ⟨gb, go, A, L, C, RB, RO, S, hI, hl, hL, hS⟩ := inp_of h0
  clear hA0 hval0
  refine (law_walk a0 gb go len0 cap0 A L C RB RO S W hl hL hS hI).mono fun e W' ⟨he, hs⟩ => ?_
  subst he
  have bel : Below W.heap.size W W' := ⟨hs.os, hs.tape, hs.output, hs.size, hs.block⟩
  exact ⟨_, rfl, _, _, _, [], _, [], hW', trodAll_mk1 (shut_bool Try.underlying4 _), (trodAll_cons_mk (Below.trod laidOut (by kernel_rfl) (of_decide_eq_true (by kernel_rfl)) k0 bel lt0) trodAll_mk0), rfl, bel.frame _, fun h => by cases h⟩

theorem over : Rows.fnCopyOfCopyOfArraysIsEqualAndApartRow.holds Try.pinned (OpenSpec.ofChange Rows.fnCopyOfCopyOfArraysIsEqualAndApartSpec) :=
  OpenClaim.holds_of_wide 4 Try.f4 rfl rfl rfl rfl rfl rfl rfl ⟨rfl, rfl, rfl, rfl, rfl⟩ rfl rfl rfl rfl rfl (by kernel_rfl) Try.func4 (by kernel_rfl)
    (of_decide_eq_true (by kernel_rfl)) (by unfold Func.isWrapper; first | (rw [if_pos (by decide +kernel)]; kernel_rfl) | (rw [if_neg (by decide +kernel)]; exact ⟨rfl, rfl⟩))
    (fun os started H enc _ => lifted os started H enc)

/-- THE STATEMENT. -/
theorem proved : Rows.FnCopyOfCopyOfArraysIsEqualAndApartSaid := over
end Go.Proofs.Qxb6618627a.CopyOfCopy
namespace Go.Proofs.Qxb6618627a
theorem copyOfCopyProved : Rows.FnCopyOfCopyOfArraysIsEqualAndApartSaid := CopyOfCopy.proved
end Go.Proofs.Qxb6618627a
