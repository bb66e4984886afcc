/-
  evolvent, the card: the row with its laid variables, and the tied card.
-/
import Derived.Test.Qxb6618657aDoorRows
import Derived.Test.Qxb6618657aDoorTie
import Derived.Test.Qxb6618657aDoorCards
import Derived.Test.Qxb6618657aDoorWalk
import Derived.ProofKit
import Derived.LaidMore
import Derived.LaidLaws
import Derived.OpenShut
import Derived.Stop.Joined
import Derived.SevenTiedAt
namespace Go.Proofs.Qxb6618657aDoor
open Go.ChangeShapes Go.WideShapes Go.ChangeAt Go.RowKit
set_option linter.unusedVariables false

theorem own : ownKnob Tryd.prog.godebug = none := by kernel_rfl
theorem gRange : Tryd.prog.globalNamed "strconv.ErrRange" = some 0 := by kernel_rfl
theorem gSyntax : Tryd.prog.globalNamed "strconv.ErrSyntax" = some 1 := by kernel_rfl
theorem tRange : (Tryd.prog.globals[0]?).map (·.type) = some 24 := by kernel_rfl
theorem tSyntax : (Tryd.prog.globals[1]?).map (·.type) = some 24 := by kernel_rfl
theorem row50 (u : TypeId) {x : String} (hx : x = String.singleton (Char.ofNat 42) ++ "errors.errorString") (h : Tryd.prog.typeName? 3 u = some x) : u = 50 :=
  typeName_ptr_named (P := Tryd.prog) (nm := "errors.errorString") (by kernel_rfl) (by kernel_rfl) (by decide) u (by rw [h, hx]; decide +kernel)
theorem cells52 : Tryd.prog.cellsOf 52 = 1 := by kernel_rfl
theorem cells9 : Tryd.prog.cellsOf 9 = 1 := by kernel_rfl

abbrev laid5 : List (String × DataW Unit) := Rows.fnIsHexDigitAgreesWithHexLiteralRow.laid

theorem door_met (os : Os) (args : Array Value) : laidMetH Tryd.prog laid5 ((World.doorLaid Tryd.prog 400 os).forCall (fun _ _ => 0) ⟨#[], args, []⟩).memory :=
  laidMetH_of_parts3 (fuel := 8) (laidMet_of_run' 8 (by kernel_rfl) (by kernel_rfl)) (by kernel_rfl) (by kernel_rfl)

theorem of_laid {W : World} (h : laidMetH Tryd.prog laid5 W) : ∃ a0 a1, W.cell? ⟨0, 0, none⟩ = some (.iface 50 (.pointer (some a0))) ∧ W.cell? ⟨1, 0, none⟩ = some (.iface 50 (.pointer (some a1))) := by
  rw [MakeChecks.laidMetH_plain _ _ _ (by kernel_rfl)] at h
  obtain ⟨ps, ⟨g0, t0, cs0, f0, p0, q0, hg0, ht0, hv0, hd0, ⟨g1, t1, cs1, f1, p1, q1, hg1, ht1, hv1, hd1, ⟨g2, t2, cs2, f2, p2, q2, hg2, ht2, hv2, hd2, ⟨g3, t3, cs3, f3, p3, q3, hg3, ht3, hv3, hd3, ⟨g4, t4, cs4, f4, p4, q4, hg4, ht4, hv4, hd4, e5, e4⟩, e3⟩, e2⟩, e1⟩, e0⟩, hnd, hrows⟩ := h
  obtain rfl := Option.some.inj (gRange.symm.trans hg3)
  obtain rfl := Option.some.inj (gSyntax.symm.trans hg4)
  obtain rfl := Option.some.inj (tRange.symm.trans ht3)
  obtain rfl := Option.some.inj (tSyntax.symm.trans ht4)
  subst e4
  subst e3
  subst e2
  subst e1
  subst e0
  obtain ⟨l3⟩ := cs3
  obtain ⟨l4⟩ := cs4
  have ok3 : ∀ u v, l3 = [.iface u v] → Value.okWide Tryd.prog W .any 0 u v := fun u v e => by
    subst e
    exact (hrows 0 0 (by simp [MemPlace.row])).2 u v (by simpa using World.var?_cell hg3 hv3 0)
  have ok4 : ∀ u v, l4 = [.iface u v] → Value.okWide Tryd.prog W .any 0 u v := fun u v e => by
    subst e
    exact (hrows 1 0 (by simp [MemPlace.row])).2 u v (by simpa using World.var?_cell hg4 hv4 0)
  obtain ⟨a3, s3, rfl, hc3, hs3, hz3, rfl⟩ := errorString_of_trod Tryd.underlying24 (fun u => row50 u (by decide +kernel)) Tryd.underlying50 Tryd.underlying52 rfl rfl Tryd.underlying9 cells52 cells9 hd3 ok3
  obtain ⟨a4, s4, rfl, hc4, hs4, hz4, rfl⟩ := errorString_of_trod Tryd.underlying24 (fun u => row50 u (by decide +kernel)) Tryd.underlying50 Tryd.underlying52 rfl rfl Tryd.underlying9 cells52 cells9 hd4 ok4
  exact ⟨a3, a4, by simpa using World.var?_cell hg3 hv3 0, by simpa using World.var?_cell hg4 hv4 0⟩

set_option maxRecDepth 100000 in
theorem lifted (os : Os) (started : os.Started) (H : Type) (enc : TypeId × Value → H) :
    ReturnsInHanded {} Tryd.checked os 3 .any (fun w args => (Rows.fnIsHexDigitAgreesWithHexLiteralSpec.pre enc Tryd.prog Tryd.f3 [] false w args ∧ laidMetH Tryd.prog laid5 w) ∧ sizedMet enc Tryd.prog Tryd.f3 (OpenSpec.ofChange Rows.fnIsHexDigitAgreesWithHexLiteralSpec) false w args)
      (Rows.fnIsHexDigitAgreesWithHexLiteralSpec.post enc Tryd.prog Tryd.f3 false true false false) := by
  refine returnsInHanded_of_change_and (C := Tryd.checked) (X := fun w _ => laidMetH Tryd.prog laid5 w) (fun _ _ _ hh h => h.of_heap hh) own started (by kernel_rfl) Tryd.func3
    (ChangeSpec.witness_shaped (enc := enc) (C := Tryd.checked) (os := os) (X := fun w _ => laidMetH Tryd.prog laid5 w) false (World.doorLaid Tryd.prog 400 os) #[.int .u8 0] 8 rfl (World.shaped_of_RefB (by kernel_rfl) (by kernel_rfl)) (by kernel_rfl) (by kernel_rfl) (by kernel_rfl) (door_met os _)) ?_
  intro W base args ds gs before hval0 hW _ _ hL _
  have hval : ∀ (j : Nat) t v, Tryd.f3.params[j]? = some t → args[j]? = some v → Value.okWide Tryd.prog W .any base t v := hval0
  have hW' := hW
  obtain ⟨p, q, hA0, hV, rfl, hfz, hnd⟩ := hW
  have hA : DataW.TrodAll enc Tryd.prog W 0 (fun _ => true) true Tryd.f3.params.toList args.toList ds p := hA0
  rw [Tryd.params3] at hA hval
  obtain ⟨v0, d0, rfl, rfl, h0⟩ := trodAll_one hA
  obtain ⟨rfl, rfl⟩ := trodVars_none hV
  obtain ⟨a, rfl, rfl, rfl, w0⟩ := open_int Tryd.underlying5 (hval 0 5 v0 rfl rfl) h0
  obtain ⟨x0, x1, hg0, hg1⟩ := of_laid hL
  clear hA0 hval0
  have hra : 0 ≤ a ∧ a ≤ 255 := by
    have w1 := w0
    simp [Lit.wf] at w1
    exact w1
  have ea : ((UInt8.ofNat a.toNat).toNat : Int) = a := by
    rw [UInt8.toNat_ofNat']
    omega
  have hwalk := walk (UInt8.ofNat a.toNat) W 50 (some x0) 50 (some x1) hg0 hg1
  rw [ea] at hwalk
  refine hwalk.mono fun e W' ⟨he, bel⟩ => ?_
  subst he
  exact ⟨_, rfl, _, _, _, [], _, [], hW', trodAll_mk1 (shut_bool Tryd.underlying4 _), trodAll_mk1 (shut_int Tryd.underlying5 w0), rfl, bel.frame _, fun h => by cases h⟩

theorem over : Rows.FnIsHexDigitAgreesWithHexLiteralSaid :=
  OpenClaim.holds_of_wide 3 Tryd.f3 rfl rfl rfl rfl rfl rfl rfl ⟨rfl, rfl, rfl, rfl, rfl⟩ rfl rfl rfl rfl rfl (by kernel_rfl) Tryd.func3 (by kernel_rfl)
    (of_decide_eq_true (by kernel_rfl)) (by unfold Func.isWrapper; first | (rw [if_pos (by decide +kernel)]; kernel_rfl) | (rw [if_neg (by decide +kernel)]; exact ⟨rfl, rfl⟩))
    (fun os started H enc _ => lifted os started H enc)

/-- THE TIED CARD. -/
theorem hexLiteralCardProved : Rows.FnIsHexDigitAgreesWithHexLiteralCardSaid :=
  Claim7.holds_tied_plain_at .later [] [.data, .data, .data, .sentinel, .sentinel] true (true, "b5f856d4ac75457c1689b7e7e14fc180bc4612af4fa9214ee00aa34a0eeb8754") true
    over (fun _ h => by cases h) (by kernel_rfl) (fun _ h => by cases h) fnIsHexDigitAgreesWithHexLiteral_row_tie rfl ⟨rfl, rfl⟩ (by kernel_rfl) rfl
    (fun f fn hf hfn => by
      obtain rfl : f = 3 := Option.some.inj ((show Tryd.prog.funcNamed Rows.fnIsHexDigitAgreesWithHexLiteralRow.func = some 3 by kernel_rfl).symm.trans hf) |>.symm
      obtain rfl : fn = Tryd.f3 := (Option.some.inj (Tryd.func3.symm.trans hfn)).symm
      exact ⟨by kernel_rfl, fun j t ht => by
        rw [Tryd.params3] at ht
        have hm : t ∈ [5] := by simpa using Array.mem_of_getElem? ht
        have hall : ([5].all fun u => !Tryd.prog.wantsStandIn u) = true := by kernel_rfl
        exact (show Tryd.prog.wantsStandIn t = false by simpa using List.all_eq_true.1 hall t hm)⟩)
    (by kernel_rfl)
end Go.Proofs.Qxb6618657aDoor
