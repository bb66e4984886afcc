/-
  leeway: WHAT THE ROW OF FnTxnToWireCutsAnywhere OPENS: the reads, the writes.
-/
import Derived.Test.Qxb6618655aOpen
import Derived.Test.Qxb6618655aWireIn
import Derived.Deep.Slices
import Derived.Deep.Strs
namespace Go.Proofs.Qxb6618655a
open Go.ChangeShapes Go.WideShapes Go.ChangeAt Go.RowKit Go.Deep
set_option linter.unusedVariables false

theorem cells56 : Try.prog.cellsOf 56 = 4 := by kernel_rfl
theorem cells64 : Try.prog.cellsOf 64 = 6 := by kernel_rfl
theorem cells28 : Try.prog.cellsOf 28 = 1 := by kernel_rfl
theorem cells29 : Try.prog.cellsOf 29 = 1 := by kernel_rfl
theorem cells5 : Try.prog.cellsOf 5 = 1 := by kernel_rfl
theorem cells4 : Try.prog.cellsOf 4 = 1 := by kernel_rfl

def rd0 : RD := ⟨ByteArray.empty, none, 0, 0, 0, 0, fun _ => ByteArray.empty, none, 0, 0, 0, 0, fun _ => 0, ByteArray.empty⟩
def wd0 : WD := ⟨0, ByteArray.empty, ByteArray.empty, 0, false, 0⟩

theorem len4 {l : List Value} (h : l.length = 4) : ∃ a b c d, l = [a, b, c, d] := by
  match l, h with
  | [a, b, c, d], _ => exact ⟨a, b, c, d, rfl⟩
theorem len6 {l : List Value} (h : l.length = 6) : ∃ a b c d e f, l = [a, b, c, d, e, f] := by
  match l, h with
  | [a, b, c, d, e, f], _ => exact ⟨a, b, c, d, e, f, rfl⟩

theorem some_of {α : Type} {xs : List α} {i n : Nat} (h : xs.length = n) (hi : i < n) {o : Option α} (e : o = xs[i]?) : ∃ y, o = some y := by
  rw [List.getElem?_eq_getElem (by omega)] at e
  exact ⟨_, e⟩

theorem keys_at {H : Type} {enc : TypeId × Value → H} {w : World} {x : DataW H × List MemPlace} {fuel : Nat} {v : Value} (h : DataW.trod enc Try.prog w 0 (fun _ => true) true fuel 28 [v] = some x) :
    ∃ (a : Option Addr) (l c kb ko : Nat) (K : Nat → ByteArray), v = .slice a l c ∧ Keys w a kb ko l K ∧ l ≤ maxLen ∧ (∀ r, r < l → (K r).size ≤ maxLen) ∧ (a = none → l = 0) := by
  have hv : ∃ a l c, v = .slice a l c ∧ (a = none → l = 0) := by
    rcases open_strings Try.underlying28 Try.underlying9 cells9 h with ⟨hcs, hx⟩ | ⟨a, l, c, ss, hcs, _⟩
    · exact ⟨none, 0, 0, List.head_eq_of_cons_eq hcs, fun _ => rfl⟩
    · exact ⟨some a, l, c, List.head_eq_of_cons_eq hcs, fun h => by cases h⟩
  obtain ⟨a, l, c, rfl, hn⟩ := hv
  have hT : DataW.Trod enc Try.prog w 0 (fun _ => true) true 28 (.slice a l c) x.1 x.2 := ⟨fuel, h⟩
  obtain ⟨kb, ko, K, h1, h2, h3⟩ := keys_of hT
  exact ⟨a, l, c, kb, ko, K, rfl, h1, h2, h3, hn⟩

theorem vals_at {H : Type} {enc : TypeId × Value → H} {w : World} {x : DataW H × List MemPlace} {fuel : Nat} {v : Value} (h : DataW.trod enc Try.prog w 0 (fun _ => true) true fuel 29 [v] = some x) :
    ∃ (a : Option Addr) (l c kb ko : Nat) (V : Nat → Int), v = .slice a l c ∧ Vals w a kb ko l V ∧ l ≤ maxLen := by
  have hv : ∃ a l c, v = .slice a l c := by
    rcases open_ints Try.underlying29 Try.underlying2 cells2 h with ⟨hcs, hx⟩ | ⟨a, l, c, ss, hcs, _⟩
    · exact ⟨none, 0, 0, List.head_eq_of_cons_eq hcs⟩
    · exact ⟨some a, l, c, List.head_eq_of_cons_eq hcs⟩
  obtain ⟨a, l, c, rfl⟩ := hv
  have hT : DataW.Trod enc Try.prog w 0 (fun _ => true) true 29 (.slice a l c) x.1 x.2 := ⟨fuel, h⟩
  obtain ⟨kb, ko, V, h1, h2⟩ := vals_of hT
  exact ⟨a, l, c, kb, ko, V, rfl, h1, h2⟩

theorem reads_of {H : Type} {enc : TypeId × Value → H} {w : World} {d : DataW H} {p : List MemPlace} {a0 : Option Addr} {len cap : Nat} (h : DataW.Trod enc Try.prog w 0 (fun _ => true) true 39 (.slice a0 len cap) d p) :
    ∃ (rb ro : Nat) (D : Nat → RD), RdIn w a0 rb ro len D ∧ len ≤ 9223372036854775807 ∧ len ≤ cap ∧ ∀ i, i < len → (D i).Cap := by
  obtain ⟨fuel, hf⟩ := h
  rcases open_slice Try.underlying39 hf with ⟨hcs, _⟩ | ⟨a, l, c, m, n, Dd, Pl, hcs, hb, hl, hm, hmm, _, hx⟩
  · simp [Value.cells] at hcs
    obtain ⟨rfl, rfl, rfl⟩ := hcs
    exact ⟨0, 0, fun _ => rd0, ⟨fun h => absurd h (Nat.lt_irrefl _), fun r h => absurd h (Nat.not_lt_zero _), fun r h => absurd h (Nat.not_lt_zero _), fun r h => absurd h (Nat.not_lt_zero _), fun r h => absurd h (Nat.not_lt_zero _), fun r h => absurd h (Nat.not_lt_zero _)⟩, Nat.zero_le _, Nat.le_refl _, fun r h => absurd h (Nat.not_lt_zero _)⟩
  · simp [Value.cells] at hcs
    obtain ⟨rfl, rfl, rfl⟩ := hcs
    simp only [if_true] at hmm
    have hmm' := hmm.symm
    subst hmm'
    rw [cells56] at hx
    have each : ∀ r, r < cap → ∃ y : RD, w.cell? ((a.add (r * 4)).add 0) = some (.string y.key) ∧ w.cell? ((a.add (r * 4)).add 1) = some (.slice y.ida y.idl y.idc) ∧ w.cell? ((a.add (r * 4)).add 2) = some (.slice y.ta y.tl y.tc) ∧ w.cell? ((a.add (r * 4)).add 3) = some (.string y.dig) ∧ y.In w ∧ y.Cap := fun r hr => by
      obtain ⟨cs', hc, ht⟩ := hx r hr
      obtain ⟨xs, n', _, _, hlen, hxs, hfl⟩ := DataW.trod_struct Try.underlying56 ht
      rw [cells56] at hlen
      obtain ⟨_, hl2, hcc⟩ := World.cells?_some hc
      obtain ⟨c0, c1, c2, c3, rfl⟩ := len4 hlen
      obtain ⟨y0, h0⟩ := some_of (n := 4) hxs (by omega) (hfl 0 _ rfl)
      obtain ⟨y1, h1⟩ := some_of (n := 4) hxs (by omega) (hfl 1 _ rfl)
      obtain ⟨y2, h2⟩ := some_of (n := 4) hxs (by omega) (hfl 2 _ rfl)
      obtain ⟨y3, h3⟩ := some_of (n := 4) hxs (by omega) (hfl 3 _ rfl)
      simp only [List.getElem_toArray, List.getElem_cons_zero, List.getElem_cons_succ, cells9, cells28, cells29, List.drop_zero, List.take_succ_cons, List.take_zero, List.drop_succ_cons] at h0 h1 h2 h3
      obtain ⟨s, hs, _, hsz⟩ := DataW.trod_string Try.underlying9 h0
      obtain ⟨s3, hs3, _, hsz3⟩ := DataW.trod_string Try.underlying9 h3
      obtain ⟨ia, il, ic, ib, io, K, rfl, hK, hil, hKs, hin⟩ := keys_at h1
      obtain ⟨ta, tl, tc, tb, to, V, rfl, hV, htl⟩ := vals_at h2
      obtain rfl := List.head_eq_of_cons_eq hs
      obtain rfl := List.head_eq_of_cons_eq hs3
      unfold maxLen at hsz hsz3 hil hKs htl
      exact ⟨⟨s, ia, il, ic, ib, io, K, ta, tl, tc, tb, to, V, s3⟩, hcc 0 (by omega), hcc 1 (by omega), hcc 2 (by omega), hcc 3 (by omega), ⟨hK, hV, hin⟩, ⟨hsz, hil, hKs, htl, hsz3⟩⟩
    obtain ⟨y, hy⟩ := @choose_lt RD ⟨rd0⟩ _ _ each
    obtain ⟨b, off, spot⟩ := a
    have hsp : 0 < len → spot = none := fun h0 => by
      have := World.cell?_spot (hy 0 (by omega)).1
      simpa [Addr.add] using this
    refine ⟨b, off, y, ⟨fun h0 => by rw [hsp h0], fun r hr => ?_, fun r hr => ?_, fun r hr => ?_, fun r hr => ?_, fun r hr => (hy r (by omega)).2.2.2.2.1⟩, by unfold maxLen at hm; omega, hl, fun r hr => (hy r (by omega)).2.2.2.2.2⟩
    · obtain rfl := hsp (by omega)
      have := (hy r (by omega)).1
      rw [add_plain, add_plain] at this
      exact this
    · obtain rfl := hsp (by omega)
      have := (hy r (by omega)).2.1
      rw [add_plain, add_plain] at this
      exact this
    · obtain rfl := hsp (by omega)
      have := (hy r (by omega)).2.2.1
      rw [add_plain, add_plain] at this
      exact this
    · obtain rfl := hsp (by omega)
      have := (hy r (by omega)).2.2.2.1
      rw [add_plain, add_plain] at this
      exact this

theorem writes_of {H : Type} {enc : TypeId × Value → H} {w : World} {d : DataW H} {p : List MemPlace} {a0 : Option Addr} {len cap : Nat} (h : DataW.Trod enc Try.prog w 0 (fun _ => true) true 40 (.slice a0 len cap) d p) :
    ∃ (rb ro : Nat) (E : Nat → WD), WrIn w a0 rb ro len E ∧ len ≤ 9223372036854775807 ∧ len ≤ cap ∧ ∀ i, i < len → (E i).key.size ≤ 9223372036854775807 ∧ (E i).val.size ≤ 9223372036854775807 := by
  obtain ⟨fuel, hf⟩ := h
  rcases open_slice Try.underlying40 hf with ⟨hcs, _⟩ | ⟨a, l, c, m, n, Dd, Pl, hcs, hb, hl, hm, hmm, _, hx⟩
  · simp [Value.cells] at hcs
    obtain ⟨rfl, rfl, rfl⟩ := hcs
    exact ⟨0, 0, fun _ => wd0, ⟨fun h => absurd h (Nat.lt_irrefl _), fun r h => absurd h (Nat.not_lt_zero _), fun r h => absurd h (Nat.not_lt_zero _), fun r h => absurd h (Nat.not_lt_zero _), fun r h => absurd h (Nat.not_lt_zero _), fun r h => absurd h (Nat.not_lt_zero _), fun r h => absurd h (Nat.not_lt_zero _)⟩, Nat.zero_le _, Nat.le_refl _, fun r h => absurd h (Nat.not_lt_zero _)⟩
  · simp [Value.cells] at hcs
    obtain ⟨rfl, rfl, rfl⟩ := hcs
    simp only [if_true] at hmm
    have hmm' := hmm.symm
    subst hmm'
    rw [cells64] at hx
    have each : ∀ r, r < cap → ∃ y : WD, w.cell? ((a.add (r * 6)).add 0) = some (.int .u8 y.op) ∧ w.cell? ((a.add (r * 6)).add 1) = some (.string y.key) ∧ w.cell? ((a.add (r * 6)).add 2) = some (.string y.val) ∧ w.cell? ((a.add (r * 6)).add 3) = some (.int .i64 y.dlt) ∧ w.cell? ((a.add (r * 6)).add 4) = some (.bool y.wd) ∧ w.cell? ((a.add (r * 6)).add 5) = some (.int .i64 y.wt) ∧ y.key.size ≤ 9223372036854775807 ∧ y.val.size ≤ 9223372036854775807 := fun r hr => by
      obtain ⟨cs', hc, ht⟩ := hx r hr
      obtain ⟨xs, n', _, _, hlen, hxs, hfl⟩ := DataW.trod_struct Try.underlying64 ht
      rw [cells64] at hlen
      obtain ⟨_, hl2, hcc⟩ := World.cells?_some hc
      obtain ⟨c0, c1, c2, c3, c4, c5, rfl⟩ := len6 hlen
      obtain ⟨y0, h0⟩ := some_of (n := 6) hxs (by omega) (hfl 0 _ rfl)
      obtain ⟨y1, h1⟩ := some_of (n := 6) hxs (by omega) (hfl 1 _ rfl)
      obtain ⟨y2, h2⟩ := some_of (n := 6) hxs (by omega) (hfl 2 _ rfl)
      obtain ⟨y3, h3⟩ := some_of (n := 6) hxs (by omega) (hfl 3 _ rfl)
      obtain ⟨y4, h4⟩ := some_of (n := 6) hxs (by omega) (hfl 4 _ rfl)
      obtain ⟨y5, h5⟩ := some_of (n := 6) hxs (by omega) (hfl 5 _ rfl)
      simp only [List.getElem_toArray, List.getElem_cons_zero, List.getElem_cons_succ, cells9, cells5, cells2, cells4, List.drop_zero, List.take_succ_cons, List.take_zero, List.drop_succ_cons] at h0 h1 h2 h3 h4 h5
      obtain ⟨o, ho, _, _⟩ := DataW.trod_int Try.underlying5 h0
      obtain ⟨s1, hs1, _, hz1⟩ := DataW.trod_string Try.underlying9 h1
      obtain ⟨s2, hs2, _, hz2⟩ := DataW.trod_string Try.underlying9 h2
      obtain ⟨x3, hx3, _, _⟩ := DataW.trod_int Try.underlying2 h3
      obtain ⟨b4, hb4, _⟩ := DataW.trod_bool Try.underlying4 h4
      obtain ⟨x5, hx5, _, _⟩ := DataW.trod_int Try.underlying2 h5
      obtain rfl := List.head_eq_of_cons_eq ho
      obtain rfl := List.head_eq_of_cons_eq hs1
      obtain rfl := List.head_eq_of_cons_eq hs2
      obtain rfl := List.head_eq_of_cons_eq hx3
      obtain rfl := List.head_eq_of_cons_eq hb4
      obtain rfl := List.head_eq_of_cons_eq hx5
      unfold maxLen at hz1 hz2
      exact ⟨⟨o, s1, s2, x3, b4, x5⟩, hcc 0 (by omega), hcc 1 (by omega), hcc 2 (by omega), hcc 3 (by omega), hcc 4 (by omega), hcc 5 (by omega), hz1, hz2⟩
    obtain ⟨y, hy⟩ := @choose_lt WD ⟨wd0⟩ _ _ each
    obtain ⟨b, off, spot⟩ := a
    have hsp : 0 < len → spot = none := fun h0 => by
      have := World.cell?_spot (hy 0 (by omega)).1
      simpa [Addr.add] using this
    refine ⟨b, off, y, ⟨fun h0 => by rw [hsp h0], fun r hr => ?_, fun r hr => ?_, fun r hr => ?_, fun r hr => ?_, fun r hr => ?_, fun r hr => ?_⟩, by unfold maxLen at hm; omega, hl, fun r hr => (hy r (by omega)).2.2.2.2.2.2⟩
    · obtain rfl := hsp (by omega)
      have := (hy r (by omega)).1
      rw [add_plain, add_plain] at this
      exact this
    · obtain rfl := hsp (by omega)
      have := (hy r (by omega)).2.1
      rw [add_plain, add_plain] at this
      exact this
    · obtain rfl := hsp (by omega)
      have := (hy r (by omega)).2.2.1
      rw [add_plain, add_plain] at this
      exact this
    · obtain rfl := hsp (by omega)
      have := (hy r (by omega)).2.2.2.1
      rw [add_plain, add_plain] at this
      exact this
    · obtain rfl := hsp (by omega)
      have := (hy r (by omega)).2.2.2.2.1
      rw [add_plain, add_plain] at this
      exact this
    · obtain rfl := hsp (by omega)
      have := (hy r (by omega)).2.2.2.2.2.1
      rw [add_plain, add_plain] at this
      exact this
end Go.Proofs.Qxb6618655a
