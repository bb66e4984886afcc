/-
  THE ROW OF FnSentAtTwoLimitsIsSentAtTheGreaterAndNilSettlesNothing.
-/
import Derived.Test.Qxb6618715aRows
import Derived.Test.Qxb6618715aWalk
import Derived.ProofKit
import Derived.OpenShut
import Derived.ShutString
import Derived.ChangeOld
import Derived.Below
import Derived.Deep.Slices
import Derived.Deep.Strs
namespace Go.Proofs.Qxb6618715a
open Go.ChangeShapes Go.WideShapes Go.ChangeAt Go.RowKit Go.Deep
open Go.ChangeMaps (open_string shut_string)
set_option linter.unusedVariables false

theorem own : ownKnob Try.prog.godebug = none := by kernel_rfl
theorem cells65 : Try.prog.cellsOf 65 = 3 := by kernel_rfl
theorem cells9 : Try.prog.cellsOf 9 = 1 := by kernel_rfl
theorem cells23 : Try.prog.cellsOf 23 = 1 := by kernel_rfl

theorem add_plain (b o r : Nat) : (⟨b, o, none⟩ : Addr).add r = ⟨b, o + r, none⟩ := by
  unfold Addr.add
  split
  · rename_i h; simp_all
  · rfl

theorem len3 {l : List Value} (h : l.length = 3) : ∃ a b c, l = [a, b, c] := by
  match l, h with
  | [a, b, c], _ => exact ⟨a, b, c, rfl⟩

theorem deps_of {H : Type} {enc : TypeId × Value → H} {w : World} {d : DataW H} {p : List MemPlace} {a0 : Option Addr} {len cap : Nat} (h : DataW.Trod enc Try.prog w 0 (fun _ => true) true 51 (.slice a0 len cap) d p) :
    ∃ (gb go : Nat) (N : Nat → ByteArray) (R V : Nat → Int), DIn w a0 gb go len N R V ∧ len ≤ maxLen ∧ WfD len N R V ∧ (a0 = none → len = 0) := by
  obtain ⟨fuel, hf⟩ := h
  rcases open_slice Try.underlying51 hf with ⟨hcs, _⟩ | ⟨a, l, c, m, n, D, Pl, hcs, hb, hl, hm, hmm, _, hx⟩
  · simp [Value.cells] at hcs
    obtain ⟨rfl, rfl, rfl⟩ := hcs
    exact ⟨0, 0, fun _ => ByteArray.empty, fun _ => 0, fun _ => 0, ⟨fun h => absurd h (Nat.lt_irrefl _), fun r h => absurd h (Nat.not_lt_zero _), fun r h => absurd h (Nat.not_lt_zero _), fun r h => absurd h (Nat.not_lt_zero _)⟩, Nat.zero_le _, ⟨fun r h => absurd h (Nat.not_lt_zero _), fun r h => absurd h (Nat.not_lt_zero _), fun r h => absurd h (Nat.not_lt_zero _)⟩, fun _ => rfl⟩
  · simp [Value.cells] at hcs
    obtain ⟨rfl, rfl, rfl⟩ := hcs
    simp only [if_true] at hmm
    have hmm' := hmm.symm
    subst hmm'
    rw [cells65] at hx
    have each : ∀ r, r < cap → ∃ y : ByteArray × Int × Int, y.1.size ≤ maxLen ∧ (Lit.int .u64 y.2.1).wf = true ∧ (Lit.int .u64 y.2.2).wf = true ∧
        w.cell? ((a.add (r * 3)).add 0) = some (.string y.1) ∧ w.cell? ((a.add (r * 3)).add 1) = some (.int .u64 y.2.1) ∧ w.cell? ((a.add (r * 3)).add 2) = some (.int .u64 y.2.2) := fun r hr => by
      obtain ⟨cs', hc, ht⟩ := hx r hr
      obtain ⟨y0, y1, y2, n', _, hlen, h0, h1, h2⟩ := trod_struct3 Try.underlying65 ht
      rw [cells65] at hlen
      obtain ⟨_, hl2, hcc⟩ := World.cells?_some hc
      obtain ⟨c0, c1, c2, rfl⟩ := len3 hlen
      simp only [cells9, cells23, List.drop_zero, List.take_succ_cons, List.take_zero, List.drop_succ_cons] at h0 h1 h2
      obtain ⟨s, hs, _, hsz⟩ := DataW.trod_string Try.underlying9 h0
      obtain ⟨x1, hx1, _, hw1⟩ := DataW.trod_int Try.underlying23 h1
      obtain ⟨x2, hx2, _, hw2⟩ := DataW.trod_int Try.underlying23 h2
      obtain rfl := List.head_eq_of_cons_eq hs
      obtain rfl := List.head_eq_of_cons_eq hx1
      obtain rfl := List.head_eq_of_cons_eq hx2
      exact ⟨(s, x1, x2), hsz, hw1, hw2, hcc 0 (by omega), hcc 1 (by omega), hcc 2 (by omega)⟩
    obtain ⟨y, hy⟩ := choose_lt each
    obtain ⟨b, off, spot⟩ := a
    have hsp : 0 < len → spot = none := fun h0 => by
      have := World.cell?_spot (hy 0 (by omega)).2.2.2.1
      simpa [Addr.add] using this
    refine ⟨b, off, fun r => (y r).1, fun r => (y r).2.1, fun r => (y r).2.2, ⟨fun h0 => by rw [hsp h0], fun r hr => ?_, fun r hr => ?_, fun r hr => ?_⟩, Nat.le_trans hl hm, ⟨fun r hr => (hy r (by omega)).1, fun r hr => (hy r (by omega)).2.1, fun r hr => (hy r (by omega)).2.2.1⟩, fun h => by cases h⟩
    · obtain rfl := hsp (by omega)
      have := (hy r (by omega)).2.2.2.1
      rw [add_plain, add_plain] at this
      exact this
    · obtain rfl := hsp (by omega)
      have := (hy r (by omega)).2.2.2.2.1
      rw [add_plain, add_plain] at this
      exact this
    · obtain rfl := hsp (by omega)
      have := (hy r (by omega)).2.2.2.2.2
      rw [add_plain, add_plain] at this
      exact this

set_option maxRecDepth 100000 in
theorem sent_lifted (os : Os) (started : os.Started) (H : Type) (enc : TypeId × Value → H) :
    ReturnsInHanded {} Try.checked os 7 .any (Rows.fnSentAtTwoLimitsIsSentAtTheGreaterAndNilSettlesNothingSpec.pre6 enc Try.prog Try.f7 Rows.fnSentAtTwoLimitsIsSentAtTheGreaterAndNilSettlesNothingRow.domain false) (Rows.fnSentAtTwoLimitsIsSentAtTheGreaterAndNilSettlesNothingSpec.post enc Try.prog Try.f7 false true false false) := by
  refine returnsInHanded_of_change (C := Try.checked) own started (by kernel_rfl) Try.func7
    (ChangeSpec.witness6 (enc := enc) (C := Try.checked) false ⟨#[], #[.string ⟨#[]⟩, .int .u64 0, .int .u64 0, .bool false, .slice none 0 0, .int .u64 0, .int .u64 0], []⟩ 8 (by kernel_rfl) (by kernel_rfl) (by kernel_rfl) (by kernel_rfl)) ?_
  intro W base args ds gs before hval0 hW hcnd _
  have hval : ∀ (j : Nat) t v, Try.f7.params[j]? = some t → args[j]? = some v → Value.okWide Try.prog W .any base t v := hval0
  have hW' := hW
  obtain ⟨p, q, hA0, hV, rfl, hfz, hnd⟩ := hW
  have hA : DataW.TrodAll enc Try.prog W 0 (fun _ => true) true Try.f7.params.toList args.toList ds p := hA0
  rw [Try.params7] at hA hval
  obtain ⟨v0, vs0, d0, ds0, p0, q0, hargs, rfl, rfl, h0, r0⟩ := trodAll_cons hA
  obtain ⟨v1, vs1, d1, ds1, p1, q1, rfl, rfl, rfl, h1, r1⟩ := trodAll_cons r0
  obtain ⟨v2, vs2, d2, ds2, p2, q2, rfl, rfl, rfl, h2, r2⟩ := trodAll_cons r1
  obtain ⟨v3, vs3, d3, ds3, p3, q3, rfl, rfl, rfl, h3, r3⟩ := trodAll_cons r2
  obtain ⟨v4, vs4, d4, ds4, p4, q4, rfl, rfl, rfl, h4, r4⟩ := trodAll_cons r3
  obtain ⟨v5, vs5, d5, ds5, p5, q5, rfl, rfl, rfl, h5, r5⟩ := trodAll_cons r4
  obtain ⟨v6, vs6, d6, ds6, p6, q6, rfl, rfl, rfl, h6, r6⟩ := trodAll_cons r5
  obtain ⟨rfl, rfl, rfl⟩ := trodAll_nil r6
  obtain rfl : args = #[v0, v1, v2, v3, v4, v5, v6] := by cases args; simp_all
  obtain ⟨rfl, rfl⟩ := trodVars_none hV
  obtain ⟨a4, len4, cap4, rfl⟩ := okWide_slice Try.underlying51 (hval 4 51 v4 rfl rfl)
  have k4 := h4
  have lt4 : ∀ x ∈ p4, x.block < W.heap.size := by obtain ⟨m, hm⟩ := k4; exact DataW.trod_lt m _ _ _ hm
  obtain ⟨gb, go, N, R, V, hD, hG, hWf, hn⟩ := deps_of h4
  obtain ⟨x0, rfl, rfl, rfl, w0⟩ := open_string Try.underlying9 (hval 0 9 v0 rfl rfl) h0
  obtain ⟨x1, rfl, rfl, rfl, w1⟩ := open_int Try.underlying23 (hval 1 23 v1 rfl rfl) h1
  obtain ⟨x2, rfl, rfl, rfl, w2⟩ := open_int Try.underlying23 (hval 2 23 v2 rfl rfl) h2
  obtain ⟨x3, rfl, rfl, rfl⟩ := open_bool Try.underlying4 (hval 3 4 v3 rfl rfl) h3
  obtain ⟨x5, rfl, rfl, rfl, w5⟩ := open_int Try.underlying23 (hval 5 23 v5 rfl rfl) h5
  obtain ⟨x6, rfl, rfl, rfl, w6⟩ := open_int Try.underlying23 (hval 6 23 v6 rfl rfl) h6
  clear hA0 hval0
  refine (law_walk x0 x1 x2 x3 a4 gb go len4 cap4 N R V x5 x6 W w0 hG hWf hn hD).mono fun e W' ⟨he, hs⟩ => ?_
  subst he
  have bel : Below W.heap.size W W' := ⟨hs.os, hs.tape, hs.output, hs.size, hs.block⟩
  exact ⟨_, rfl, _, _, _, [], _, [], hW', trodAll_mk1 (shut_bool Try.underlying4 _), (trodAll_cons_mk (shut_string Try.underlying9 w0) (trodAll_cons_mk (shut_int Try.underlying23 w1) (trodAll_cons_mk (shut_int Try.underlying23 w2) (trodAll_cons_mk (shut_bool Try.underlying4 _)
    (trodAll_cons_mk (Below.trod laidOut (by kernel_rfl) (of_decide_eq_true (by kernel_rfl)) k4 bel lt4) (trodAll_cons_mk (shut_int Try.underlying23 w5) (trodAll_cons_mk (shut_int Try.underlying23 w6) trodAll_mk0))))))), rfl, bel.frame _, fun h => by cases h⟩

theorem sent_over : Rows.fnSentAtTwoLimitsIsSentAtTheGreaterAndNilSettlesNothingRow.holds Try.pinned (OpenSpec.ofChange Rows.fnSentAtTwoLimitsIsSentAtTheGreaterAndNilSettlesNothingSpec) :=
  OpenClaim.holds_of_wide 7 Try.f7 rfl rfl rfl rfl rfl rfl rfl ⟨rfl, rfl, rfl, rfl, rfl⟩ rfl rfl rfl rfl rfl (by kernel_rfl) Try.func7 (by kernel_rfl)
    (of_decide_eq_true (by kernel_rfl)) (by unfold Func.isWrapper; first | (rw [if_pos (by decide +kernel)]; kernel_rfl) | (rw [if_neg (by decide +kernel)]; exact ⟨rfl, rfl⟩))
    (fun os started H enc _ => sent_lifted os started H enc)

/-- THE STATEMENT. -/
theorem sentAtTwoLimitsProved : Rows.FnSentAtTwoLimitsIsSentAtTheGreaterAndNilSettlesNothingSaid := sent_over
end Go.Proofs.Qxb6618715a
