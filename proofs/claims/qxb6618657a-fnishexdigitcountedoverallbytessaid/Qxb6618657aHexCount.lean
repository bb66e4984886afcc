/-
  evolvent: isHexDigit counted over all bytes: the walk (9, 11, 8, 4), the plain law (case_nat, cnt_all), the row.
-/
import Derived.Test.Qxb6618657aRows
import Derived.WalkKit
import Derived.ProofKit
import Derived.OpenShut
import Derived.ShutString
import Derived.WalkLawsBesides
import Derived.WalkSpells
import Derived.Deep.LoopGhost
import Derived.Deep.Light
import Derived.Deep.QuietTactic
import Derived.BigQuiet
namespace Go.Proofs.Qxb6618657a.fnIsHexDigitCountedOverAllBytes
open Go.ChangeShapes Go.WideShapes Go.ChangeAt Go.RowKit
open Go.ChangeMaps (open_string shut_string)
set_option linter.unusedVariables false

theorem own : ownKnob Try.prog.godebug = none := by kernel_rfl

def dig (a : Int) : Bool := decide (48 ≤ a) && decide (a ≤ 57)
def hex (a : Int) : Bool := dig a || (decide (97 ≤ a) && decide (a ≤ 102)) || (decide (65 ≤ a) && decide (a ≤ 70))

theorem c9 (a : Int) (w : World) :
    Calls Try.prog 9 #[.int .u8 a] w fun e w' => e = .returned (.bool (dig a)) ∧ w' = w := by
  by_cases h1 : 48 ≤ a <;> by_cases h2 : a ≤ 57
  all_goals
    (go_enter Try.func9, Try.ntmps9
     go_wp2_with fail
     go_ret
     simp [dig, h1, h2])

theorem c11 (a : Int) (w : World) :
    Calls Try.prog 11 #[.int .u8 a] w fun e w' => e = .returned (.bool (hex a)) ∧ w' = w := by
  by_cases h0 : dig a = true
  · go_enter Try.func11, Try.ntmps11
    go_wp2_with fail
    refine (c9 a _).mono ?_
    rintro e w1 ⟨rfl, rfl⟩
    rw [h0]
    go_wp2_with fail
    go_ret
    simp [hex, h0]
  · have h0' : dig a = false := by simpa using h0
    by_cases h1 : 97 ≤ a <;> by_cases h2 : a ≤ 102 <;> by_cases h3 : 65 ≤ a <;> by_cases h4 : a ≤ 70
    all_goals first | (exfalso; omega) | skip
    all_goals
      (go_enter Try.func11, Try.ntmps11
       go_wp2_with fail
       refine (c9 a _).mono ?_
       rintro e w1 ⟨rfl, rfl⟩
       rw [h0']
       go_wp2_with fail
       go_ret
       simp [hex, h0', h1, h2, h3, h4]
       try omega)

theorem c8 (a : Int) (w : World) :
    Calls Try.prog 8 #[.int .u8 a] w fun e w' => e = .returned (.bool (hex a)) ∧ w' = w := by
  go_enter Try.func8, Try.ntmps8
  go_wp2_with fail
  refine (c11 a _).mono ?_
  rintro e w1 ⟨rfl, rfl⟩
  go_wp2_with fail
  go_ret
  simp
def cnt : Nat → Nat
  | 0 => 0
  | i + 1 => cnt i + (if hex (i : Int) = true then 1 else 0)

theorem cnt_le (n : Nat) : cnt n ≤ n := by
  induction n with
  | zero => simp [cnt]
  | succ n ih => simp only [cnt]; split <;> omega

theorem cnt_all : cnt 256 = 22 := by decide +kernel

theorem case_nat : ∀ n : Fin 256, 97 ≤ bits BinOp.or IntKind.u8 (n.val : Int) 32 → bits BinOp.or IntKind.u8 (n.val : Int) 32 ≤ 122 → hex (bits BinOp.xor IntKind.u8 (n.val : Int) 32) = hex (n.val : Int) := by decide +kernel

theorem case_free {a : Int} (h0 : 0 ≤ a) (h1 : a ≤ 255) (h2 : 97 ≤ bits BinOp.or IntKind.u8 a 32) (h3 : bits BinOp.or IntKind.u8 a 32 ≤ 122) : hex (bits BinOp.xor IntKind.u8 a 32) = hex a := by
  have e : a = ((⟨a.toNat, by omega⟩ : Fin 256).val : Int) := by simp; omega
  rw [e] at h2 h3 ⊢
  exact case_nat _ h2 h3

set_option maxRecDepth 100000 in
theorem walk (a0 : Int) (w0 : (Lit.int .u8 a0).wf = true) (w : World) :
    Calls Try.prog 4 #[.int .u8 a0] w fun e w' => e = .returned (.bool true) ∧ Grown w w' := by
  obtain ⟨ha0, ha1⟩ : 0 ≤ a0 ∧ a0 ≤ 255 := by
    simp [Lit.wf] at w0
    exact w0
  go_enter Try.func4, Try.ntmps4
  go_wp2_with fail
  go_loopg [3, 4] 256 (fun g s3 s4 wr => w = wr ∧ ∃ k : Nat, s3 = .int .i64 (cnt k : Int) ∧ s4 = .int .i64 (k : Int) ∧ k ≤ 256 ∧ g = 256 - k)
  case atStart => go_light; exact ⟨rfl, 0, rfl, rfl, by omega, rfl⟩
  case round =>
    obtain ⟨rfl, k, rfl, rfl, hk, rfl⟩ := hrel
    have hc := cnt_le k
    by_cases hk2 : k < 256
    · have hkz : (k : Int) < 256 := by omega
      go_wp2_with fail
      refine (c8 _ _).mono ?_
      rintro e w1 ⟨rfl, rfl⟩
      by_cases hx : hex (k : Int) = true
      · have hc1 : cnt (k + 1) = cnt k + 1 := by simp [cnt, hx]
        rw [hx]
        go_wp2_with fail
        go_roundg (256 - (k + 1))
        case measure => go_light; omega
        case rel => go_light; exact ⟨rfl, k + 1, by rw [hc1]; go_num, by go_num, by omega, rfl⟩
      · have hx' : hex (k : Int) = false := by simpa using hx
        have hc1 : cnt (k + 1) = cnt k := by simp [cnt, hx']
        rw [hx']
        go_wp2_with fail
        go_roundg (256 - (k + 1))
        case measure => go_light; omega
        case rel => go_light; exact ⟨rfl, k + 1, by rw [hc1], by go_num, by omega, rfl⟩
    · obtain rfl : k = 256 := by omega
      rw [cnt_all]
      go_wp2_with fail
      refine (c8 _ _).mono ?_
      rintro e w1 ⟨rfl, rfl⟩
      by_cases hx : hex a0 = true
      · rw [hx]
        go_wp2_with fail
        refine (c9 _ _).mono ?_
        rintro e w1 ⟨rfl, rfl⟩
        generalize dig a0 = d
        have h128 : a0 < 128 := by
          simp [hex, dig] at hx
          omega
        cases d
        all_goals
          go_wp2_with fail
          all_goals first
            | (go_ret; exact ⟨rfl, Grown.refl _⟩)
            | (refine (c8 _ _).mono ?_
               rintro e w1 ⟨rfl, rfl⟩
               rw [case_free ha0 ha1 (by assumption) (by assumption), hx]
               go_wp2_with fail
               go_ret
               exact ⟨rfl, Grown.refl _⟩)
      · have hx' : hex a0 = false := by simpa using hx
        have hd : dig a0 = false := by
          cases h : dig a0
          · rfl
          · simp [hex, h] at hx'
        rw [hx']
        go_wp2_with fail
        refine (c9 _ _).mono ?_
        rintro e w1 ⟨rfl, rfl⟩
        rw [hd]
        go_wp2_with fail
        all_goals first
          | (go_ret; exact ⟨rfl, Grown.refl _⟩)
          | (refine (c8 _ _).mono ?_
             rintro e w1 ⟨rfl, rfl⟩
             rw [case_free ha0 ha1 (by assumption) (by assumption), hx']
             go_wp2_with fail
             go_ret
             exact ⟨rfl, Grown.refl _⟩)

/-! ### THE ROW's STEP -/
set_option maxRecDepth 100000 in
theorem lifted (os : Os) (started : os.Started) (H : Type) (enc : TypeId × Value → H) :
    ReturnsInHanded {} Try.checked os 4 .any (Rows.fnIsHexDigitCountedOverAllBytesSpec.pre6 enc Try.prog Try.f4 Rows.fnIsHexDigitCountedOverAllBytesRow.domain false) (Rows.fnIsHexDigitCountedOverAllBytesSpec.post enc Try.prog Try.f4 false true false false) := by
  refine returnsInHanded_of_change (C := Try.checked) own started (by kernel_rfl) Try.func4
    (ChangeSpec.witness6 (enc := enc) (C := Try.checked) false ⟨#[], #[.int .u8 0], []⟩ 8 (by kernel_rfl) (by kernel_rfl) (by kernel_rfl) (by kernel_rfl)) ?_
  intro W base args ds gs before hval0 hW hcnd _
  have hval : ∀ (j : Nat) t v, Try.f4.params[j]? = some t → args[j]? = some v → Value.okWide Try.prog W .any base t v := hval0
  have hW' := hW
  obtain ⟨p, q, hA0, hV, rfl, hfz, hnd⟩ := hW
  have hA : DataW.TrodAll enc Try.prog W 0 (fun _ => true) true Try.f4.params.toList args.toList ds p := hA0
  rw [Try.params4] at hA hval
  obtain ⟨v0, vs0, d0, ds0, p0, q0, hargs, rfl, rfl, h0, r0⟩ := trodAll_cons hA
  obtain ⟨rfl, rfl, rfl⟩ := trodAll_nil r0
  obtain rfl : args = #[v0] := by cases args; simp_all
  obtain ⟨rfl, rfl⟩ := trodVars_none hV
  obtain ⟨a0, rfl, rfl, rfl, w0⟩ := open_int Try.underlying5 (hval 0 5 v0 rfl rfl) h0
  clear hA0 hval0
  simp only [List.append_nil] at hW'
  refine (walk a0 w0 W).mono fun e W' ⟨he, hg⟩ => ?_
  subst he
  exact ⟨_, rfl, post_of_same (pa := []) (pv := []) hW' (fun _ _ _ => (trodAll_cons_mk (shut_bool Try.underlying4 _) trodAll_mk0)) (fun sp _ => (trodAll_cons_mk (shut_int Try.underlying5 w0) trodAll_mk0)) (fun _ _ => rfl) rfl
    (hg.frame _) hg.2.1 (ok_one (by kernel_rfl) rfl (okWide_bool_mk Try.underlying4 _))⟩

theorem over : Rows.fnIsHexDigitCountedOverAllBytesRow.holds Try.pinned (OpenSpec.ofChange Rows.fnIsHexDigitCountedOverAllBytesSpec) :=
  OpenClaim.holds_of_wide 4 Try.f4 rfl rfl rfl rfl rfl rfl rfl ⟨rfl, rfl, rfl, rfl, rfl⟩ rfl rfl rfl rfl rfl (by kernel_rfl) Try.func4 (by kernel_rfl)
    (of_decide_eq_true (by kernel_rfl)) (by unfold Func.isWrapper; first | (rw [if_pos (by decide +kernel)]; kernel_rfl) | (rw [if_neg (by decide +kernel)]; exact ⟨rfl, rfl⟩))
    (fun os started H enc _ => lifted os started H enc)

end Go.Proofs.Qxb6618657a.fnIsHexDigitCountedOverAllBytes

namespace Go.Proofs.Qxb6618657a
theorem isHexCountProved : Rows.FnIsHexDigitCountedOverAllBytesSaid := fnIsHexDigitCountedOverAllBytes.over
end Go.Proofs.Qxb6618657a
