/-
  THE ROW OF FnCopyObjectOfNumbersIsEqualAndApart.
-/
import Derived.Test.Qxb6618627aRows
import Derived.Test.Qxb6618627aWalkObj
import Derived.ProofKit
import Derived.OpenShut
import Derived.ShutString
import Derived.ChangeOld
import Derived.Below
import Derived.Deep.Slices
import Derived.Deep.SlicePairs
namespace Go.Proofs.Qxb6618627a.CopyObject
open Go.ChangeShapes Go.WideShapes Go.ChangeAt Go.RowKit Go.Deep
set_option linter.unusedVariables false

theorem own : ownKnob Try.prog.godebug = none := by kernel_rfl
theorem laidOut : laidOutB Try.prog = true := by kernel_rfl
theorem cells26 : Try.prog.cellsOf 26 = 2 := by kernel_rfl
theorem cells24 : Try.prog.cellsOf 24 = 1 := by kernel_rfl
theorem cells9 : Try.prog.cellsOf 9 = 1 := by kernel_rfl
theorem cells40 : Try.prog.cellsOf 40 = 1 := by kernel_rfl

section
variable {H : Type} {enc : TypeId × Value → H} {P : Program} {w : World} {base : Nat} {held : Bool}

theorem trod_float {t : TypeId} {k : FloatKind} {spare : Nat → Bool} {fuel : Nat} {cs : List Value} {x : DataW H × List MemPlace} (ht : P.underlying t = some (.float k)) (h : DataW.trod enc P w base spare held fuel t cs = some x) : ∃ n, cs = [.float k n] := by
  cases fuel with
  | zero => simp [DataW.trod] at h
  | succ n =>
    unfold DataW.trod at h
    rw [ht] at h
    split at h <;> simp_all

theorem add_plain (b o r : Nat) : (⟨b, o, none⟩ : Addr).add r = ⟨b, o + r, none⟩ := by
  unfold Addr.add
  split
  · rename_i h; simp_all
  · rfl

/-- A slice of numbers: its length, and its cells. -/
theorem open_floats {t e : TypeId} {k : FloatKind} {fuel : Nat} {v : Value} {x : DataW H × List MemPlace} (ht : P.underlying t = some (.slice e)) (he : P.underlying e = some (.float k)) (ce : P.cellsOf e = 1)
    (h : DataW.trod enc P w base (fun _ => true) held fuel t [v] = some x) :
    ∃ (a : Option Addr) (len cap rb ro : Nat) (z : Nat → Nat), v = .slice a len cap ∧ len ≤ maxLen ∧ ∀ c, c < len → a = some ⟨rb, ro, none⟩ ∧ w.cell? ⟨rb, ro + c, none⟩ = some (.float k (z c)) := by
  rcases open_slice1 ht ce h with h0 | ⟨a, len, cap, m, n, V, D, Pl, hcs, hb, hl, hm, hmm, rfl, hx⟩
  · obtain ⟨h1, _⟩ := h0
    cases h1
    exact ⟨none, 0, 0, 0, 0, fun _ => 0, rfl, Nat.zero_le _, fun c hc => absurd hc (Nat.not_lt_zero _)⟩
  · cases hcs
    simp only [if_true] at hmm
    have hmm' := hmm.symm
    subst hmm'
    have each : ∀ c, c < cap → ∃ z : Nat, V c = .float k z := fun c hc => by
      obtain ⟨z, hz⟩ := trod_float he (hx c hc).2
      exact ⟨z, by simpa using hz⟩
    obtain ⟨z, hz⟩ := choose_lt each
    obtain ⟨b, o, sp⟩ := a
    refine ⟨some ⟨b, o, sp⟩, len, cap, b, o, z, rfl, Nat.le_trans hl hm, fun c hc => ?_⟩
    have hspot := World.cell?_spot (hx 0 (by omega)).1
    simp [Addr.add] at hspot
    subst hspot
    refine ⟨rfl, ?_⟩
    have := (hx c (by omega)).1
    rw [add_plain, hz c (by omega)] at this
    exact this
end

theorem inp_of {H : Type} {enc : TypeId × Value → H} {w : World} {d : DataW H} {p : List MemPlace} {a0 : Option Addr} {len cap : Nat} (h : DataW.Trod enc Try.prog w 0 (fun _ => true) true 22 (.slice a0 len cap) d p) :
    ∃ (gb go : Nat) (K : Nat → ByteArray) (A : Nat → Option Addr) (L C RB RO : Nat → Nat) (X : Nat → Nat → Nat), InpE w a0 gb go len K A L C RB RO X ∧ len ≤ maxLen ∧ (∀ r, r < len → L r ≤ maxLen) ∧ (∀ r, r < len → (K r).size ≤ maxLen) := by
  obtain ⟨fuel, hf⟩ := h
  rcases open_slice_pairs Try.underlying22 Try.underlying26 cells26 rfl rfl cells9 cells24 hf with ⟨hcs, _⟩ | ⟨a, l, c, m, n, V0, V1, D0, D1, P0, P1, hcs, hb, hl, hm, hmm, _, hx⟩
  · simp [Value.cells] at hcs
    obtain ⟨rfl, rfl, rfl⟩ := hcs
    exact ⟨0, 0, fun _ => ByteArray.empty, fun _ => none, fun _ => 0, fun _ => 0, fun _ => 0, fun _ => 0, fun _ _ => 0, ⟨fun h => absurd h (Nat.lt_irrefl _), fun r h => absurd h (Nat.not_lt_zero _), fun r h => absurd h (Nat.not_lt_zero _), fun r h => absurd h (Nat.not_lt_zero _)⟩, Nat.zero_le _, fun r h => absurd h (Nat.not_lt_zero _), fun r h => absurd h (Nat.not_lt_zero _)⟩
  · simp [Value.cells] at hcs
    obtain ⟨rfl, rfl, rfl⟩ := hcs
    simp only [if_true] at hmm
    have hmm' := hmm.symm
    subst hmm'
    have each : ∀ r, r < cap → ∃ y : ByteArray × Option Addr × Nat × Nat × Nat × Nat × (Nat → Nat), V0 r = .string y.1 ∧ y.1.size ≤ maxLen ∧ V1 r = .slice y.2.1 y.2.2.1 y.2.2.2.1 ∧ y.2.2.1 ≤ maxLen ∧
        ∀ c, c < y.2.2.1 → y.2.1 = some ⟨y.2.2.2.2.1, y.2.2.2.2.2.1, none⟩ ∧ w.cell? ⟨y.2.2.2.2.1, y.2.2.2.2.2.1 + c, none⟩ = some (.float .f64 (y.2.2.2.2.2.2 c)) := fun r hr => by
      obtain ⟨_, _, h0, h1⟩ := hx r hr
      obtain ⟨s, hs, _, hsz⟩ := DataW.trod_string Try.underlying9 h0
      obtain ⟨a', len', cap', rb, ro, z, hv, hlen, hc⟩ := open_floats Try.underlying24 Try.underlying40 cells40 h1
      exact ⟨(s, a', len', cap', rb, ro, z), by simpa using hs, hsz, hv, hlen, hc⟩
    obtain ⟨y, hy⟩ := choose_lt each
    obtain ⟨b, off, spot⟩ := a
    have hsp : 0 < len → spot = none := fun h0 => by
      have := World.cell?_spot (hx 0 (by omega)).1
      simpa [Addr.add] using this
    refine ⟨b, off, fun r => (y r).1, fun r => (y r).2.1, fun r => (y r).2.2.1, fun r => (y r).2.2.2.1, fun r => (y r).2.2.2.2.1, fun r => (y r).2.2.2.2.2.1, fun r => (y r).2.2.2.2.2.2, ⟨fun h0 => ?_, fun r hr => ?_, fun r hr => ?_, fun r hr c hc => ?_⟩, Nat.le_trans hl hm, fun r hr => ?_, fun r hr => ?_⟩
    · rw [hsp h0]
    · obtain rfl := hsp (by omega)
      have := (hx r (by omega)).1
      rw [add_plain, (hy r (by omega)).1] at this
      exact this
    · obtain rfl := hsp (by omega)
      have := (hx r (by omega)).2.1
      rw [add_plain, (hy r (by omega)).2.2.1] at this
      exact this
    · exact (hy r (by omega)).2.2.2.2 c hc
    · exact (hy r (by omega)).2.2.2.1
    · exact (hy r (by omega)).2.1

set_option maxRecDepth 100000 in
theorem lifted (os : Os) (started : os.Started) (H : Type) (enc : TypeId × Value → H) :
    ReturnsInHanded {} Try.checked os 3 .any (Rows.fnCopyObjectOfNumbersIsEqualAndApartSpec.pre6 enc Try.prog Try.f3 Rows.fnCopyObjectOfNumbersIsEqualAndApartRow.domain false) (Rows.fnCopyObjectOfNumbersIsEqualAndApartSpec.post enc Try.prog Try.f3 false true false false) := by
  refine returnsInHanded_of_change (C := Try.checked) own started (by kernel_rfl) Try.func3
    (ChangeSpec.witness6 (enc := enc) (C := Try.checked) false ⟨#[], #[.slice none 0 0], []⟩ 8 (by kernel_rfl) (by kernel_rfl) (by kernel_rfl) (by kernel_rfl)) ?_
  intro W base args ds gs before hval0 hW hcnd _
  have hval : ∀ (j : Nat) t v, Try.f3.params[j]? = some t → args[j]? = some v → Value.okWide Try.prog W .any base t v := hval0
  have hW' := hW
  obtain ⟨p, q, hA0, hV, rfl, hfz, hnd⟩ := hW
  have hA : DataW.TrodAll enc Try.prog W 0 (fun _ => true) true Try.f3.params.toList args.toList ds p := hA0
  rw [Try.params3] at hA hval
  obtain ⟨v0, vs0, d0, ds0, p0, q0, hargs, rfl, rfl, h0, r0⟩ := trodAll_cons hA
  obtain ⟨rfl, rfl, rfl⟩ := trodAll_nil r0
  obtain rfl : args = #[v0] := by cases args; simp_all
  obtain ⟨rfl, rfl⟩ := trodVars_none hV
  obtain ⟨a0, len0, cap0, rfl⟩ := okWide_slice Try.underlying22 (hval 0 22 v0 rfl rfl)
  have k0 := h0
  have lt0 : ∀ x ∈ p0, x.block < W.heap.size := by obtain ⟨m, hm⟩ := k0; exact DataW.trod_lt m _ _ _ hm
  obtain ⟨gb, go, K, A, L, C, RB, RO, X, hI, hl, hL, hK⟩ := inp_of h0
  clear hA0 hval0
  refine (law2_walk a0 gb go len0 cap0 K A L C RB RO X W hl hL hK hI).mono fun e W' ⟨he, hs⟩ => ?_
  subst he
  have bel : Below W.heap.size W W' := ⟨hs.os, hs.tape, hs.output, hs.size, hs.block⟩
  exact ⟨_, rfl, _, _, _, [], _, [], hW', trodAll_mk1 (shut_bool Try.underlying4 _), (trodAll_cons_mk (Below.trod laidOut (by kernel_rfl) (of_decide_eq_true (by kernel_rfl)) k0 bel lt0) trodAll_mk0), rfl, bel.frame _, fun h => by cases h⟩

theorem over : Rows.fnCopyObjectOfNumbersIsEqualAndApartRow.holds Try.pinned (OpenSpec.ofChange Rows.fnCopyObjectOfNumbersIsEqualAndApartSpec) :=
  OpenClaim.holds_of_wide 3 Try.f3 rfl rfl rfl rfl rfl rfl rfl ⟨rfl, rfl, rfl, rfl, rfl⟩ rfl rfl rfl rfl rfl (by kernel_rfl) Try.func3 (by kernel_rfl)
    (of_decide_eq_true (by kernel_rfl)) (by unfold Func.isWrapper; first | (rw [if_pos (by decide +kernel)]; kernel_rfl) | (rw [if_neg (by decide +kernel)]; exact ⟨rfl, rfl⟩))
    (fun os started H enc _ => lifted os started H enc)

/-- THE STATEMENT. -/
theorem proved : Rows.FnCopyObjectOfNumbersIsEqualAndApartSaid := over
end Go.Proofs.Qxb6618627a.CopyObject
namespace Go.Proofs.Qxb6618627a
theorem copyObjectProved : Rows.FnCopyObjectOfNumbersIsEqualAndApartSaid := CopyObject.proved
end Go.Proofs.Qxb6618627a
