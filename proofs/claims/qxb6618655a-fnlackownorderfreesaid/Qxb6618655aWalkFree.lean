/-
  leeway: THE WALK OF FnLackOwnOrderFree (6).
-/
import Derived.Test.Qxb6618655aWalkTwice
namespace Go.Proofs.Qxb6618655a
open Go.RowKit
set_option linter.unusedVariables false

theorem lesser_comm (a b : Int) : lesser a b = lesser b a := by
  unfold lesser
  repeat' split
  all_goals omega

theorem lack_comm (f : ByteArray → Option Int) (late : Int) {id1 id2 : ByteArray} (f1 f2 : Int) (h : id1 ≠ id2) : lack (lack f late id2 f2) late id1 f1 = lack (lack f late id1 f1) late id2 f2 := by
  funext z
  unfold lack
  rw [upd_other _ _ h, upd_other _ _ (fun e => h e.symm)]
  by_cases e1 : z = id1
  · subst e1
    rw [upd_same, upd_other _ _ h, upd_same]
  · rw [upd_other _ _ e1]
    by_cases e2 : z = id2
    · subst e2; rw [upd_same, upd_same]
    · rw [upd_other _ _ e2, upd_other _ _ e2, upd_other _ _ e1]

/-- What the two calls leave at each key. -/
theorem both_1 (f : ByteArray → Option Int) (late : Int) {id1 id2 : ByteArray} (f1 f2 : Int) (h : id1 ≠ id2) : lack (lack f late id1 f1) late id2 f2 id1 = some (lowV ((f id1).getD 0) late f1) := by
  rw [lack_off _ _ _ h, lack_at]
theorem both_2 (f : ByteArray → Option Int) (late : Int) {id1 id2 : ByteArray} (f1 f2 : Int) (h : id1 ≠ id2) : lack (lack f late id1 f1) late id2 f2 id2 = some (lowV ((f id2).getD 0) late f2) := by
  rw [lack_at, lack_off _ _ _ (fun e => h e.symm)]
theorem both_off (f : ByteArray → Option Int) (late : Int) {id1 id2 s : ByteArray} (f1 f2 : Int) (h1 : s ≠ id1) (h2 : s ≠ id2) : lack (lack f late id1 f1) late id2 f2 s = f s := by
  rw [lack_off _ _ _ h2, lack_off _ _ _ h1]

set_option maxHeartbeats 4000000 in
set_option maxRecDepth 100000 in
theorem free_walk (ga : Option Addr) (gb go G Gc : Nat) (K : Nat → ByteArray) (va : Option Addr) (vb vo VL Vc : Nat) (V : Nat → Int) (late : Int) (id1 : ByteArray) (f1 : Int) (id2 : ByteArray) (f2 : Int) (w : World)
    (hG : G ≤ maxLen) (hK : ∀ i, i < G → (K i).size ≤ maxLen) (hV : VL ≤ maxLen) (hid1 : id1.size ≤ maxLen) (hid2 : id2.size ≤ maxLen) (hk : Keys w ga gb go G K) (hv : Vals w va vb vo VL V) (hf1 : (Lit.int .i64 f1).wf = true) (hf2 : (Lit.int .i64 f2).wf = true) :
    Calls Try.prog 6 #[.slice ga G Gc, .slice va VL Vc, .int .i64 late, .string id1, .int .i64 f1, .string id2, .int .i64 f2] w (Law w) := by
  have HB : Hid (Calls Try.prog 17 #[.slice ga G Gc, .slice va VL Vc, .int .i64 late, .string id1, .int .i64 f1, .string id2, .int .i64 f2] w (Answers2 G K VL id1.size id2.size w)) := bytes_free ga gb go G Gc K va VL Vc late id1 f1 id2 f2 w hG hK hV hid1 hid2 hk
  have HV : Hid (VL ≤ maxLen) := hV
  unfold maxLen at hG
  clear hK hV
  go_enter Try.func6, Try.ntmps6
  go_wp2_with fail
  refine HB.out.mono ?_
  rintro e w0 ⟨⟨b, rfl, hfit⟩, h⟩
  obtain rfl := h
  clear HB
  cases b with
  | false =>
    go_wp2_with fail
    go_ret
    exact ⟨rfl, World.Since.refl _ _⟩
  | true =>
  obtain ⟨hF, hVL, hs1, hs2⟩ := hfit rfl
  clear hfit
  have ds1 : decide ((1048576 : Int) < (id1.size : Int)) = false := by simp; omega
  have ds2 : decide ((1048576 : Int) < (id2.size : Int)) = false := by simp; omega
  go_wp2_with fail
  refine (known_bytes ga gb go G Gc K va VL Vc _ w0 hF.g hF.k hk hVL (by omega) (by omega)).mono ?_
  rintro e w1 ⟨⟨z, rfl⟩, h⟩
  obtain rfl := h
  clear ds1 ds2
  by_cases hz : (1048576 : Int) < z
  · go_wp2_with fail
    go_ret
    exact ⟨rfl, World.Since.refl _ _⟩
  · by_cases hne : VL = G
    · subst hne
      go_wp2_with fail
      refine (build_any ga gb go VL Gc K va vb vo Vc V w1 hF.g hF.k hk hv).mono ?_
      rintro e w2 ⟨rfl, a, hb1⟩
      go_wp2_with fail
      refine (build_any ga gb go VL Gc K va vb vo Vc V w2 hF.g hF.k (hk.since hb1.since) (hv.since hb1.since)).mono ?_
      rintro e w3 ⟨rfl, b, hb2⟩
      have s2 := hb1.since.trans (since_mono hb2.since (Nat.le_of_lt hb1.size))
      go_wp2_with fail
      refine (build_any ga gb go VL Gc K va vb vo Vc V w3 hF.g hF.k (hk.since s2) (hv.since s2)).mono ?_
      rintro e w4 ⟨rfl, c, hb3⟩
      have hT := three_start hb1 hb2 hb3
      clear hb1 hb2 hb3 s2
      generalize known K V VL = f at *
      generalize w1.heap.size = m0 at *
      generalize w2.heap.size = m1 at *
      generalize w3.heap.size = m2 at *
      clear w2 w3
      go_wp2_with fail
      refine (zlack_own m1 VL a f late f1 id1 w4 hT.b (by omega) hid1 hf1).mono ?_
      rintro e w5 ⟨rfl, hM5, hg5⟩
      have hT5 := hT.putB hM5 hg5
      clear hT hM5 hg5
      go_wp2_with fail
      refine (zlack_own m1 (VL + 1) _ _ late f2 id2 w5 hT5.b (by omega) hid2 hf2).mono ?_
      rintro e w6 ⟨rfl, hM6, hg6⟩
      have hT6 := hT5.putB hM6 hg6
      clear hT5 hM6 hg6
      go_wp2_with fail
      refine (zlack_own m2 VL a f late f2 id2 w6 hT6.c (by omega) hid2 hf2).mono ?_
      rintro e w7 ⟨rfl, hM7, hg7⟩
      have hT7 := hT6.putC hM7 hg7
      clear hT6 hM7 hg7
      go_wp2_with fail
      refine (zlack_own m2 (VL + 1) _ _ late f1 id1 w7 hT7.c (by omega) hid1 hf1).mono ?_
      rintro e w8 ⟨rfl, hM8, hg8⟩
      have hT8 := hT7.putC hM8 hg8
      clear hT7 hM8 hg8
      by_cases hii : id1 = id2
      · subst hii
        rw [lack_twice, lack_twice, szUp_lack, szUp_lack, lesser_comm f2 f1] at hT8
        cases hh : (f id1).isSome with
        | true =>
          have hT9 := hT8
          rw [show szUp f id1 a = a by simp [szUp, hh]] at hT9
          clear hT8
          have l0 := hT9.a.look hid1
          have l1 := hT9.b.look hid1
          rw [lack_at, Option.getD_some, Option.isSome_some] at l1
          rw [hh] at l0
          have ha : a ≤ 1048576 := by have := hT9.a.le; omega
          have n0 := hT9.a.len good32 3
          have n1 := hT9.b.len good32 3
          have n2 := hT9.c.len good32 3
          have HWE : Hid (∀ F', lesser ((f id1).getD 0) (greater (wrap64 (late - 1)) F') = lowV ((f id1).getD 0) late F') := fun F' => want_eq _ _ _
          have HG : Hid (Three w1 w8 m0 VL f a m1 (VL + 1 + 1) (lack f late id1 (lesser f1 f2)) (a) m2 (VL + 1 + 1) (lack f late id1 (lesser f1 f2)) (a)) := hT9
          clear hT9
          generalize (f id1).getD 0 = v at *
          go_wp2_with fail
          refine (lesser_any f1 f2 w8).mono ?_
          rintro e w9 ⟨rfl, h⟩
          obtain rfl := h
          go_wp2_with fail
          refine (greater_any _ _ w9).mono ?_
          rintro e w10 ⟨rfl, h⟩
          obtain rfl := h
          go_wp2_with fail
          refine (lesser_any v _ w10).mono ?_
          rintro e w11 ⟨rfl, h⟩
          obtain rfl := h
          rw [HWE.out]
          generalize lowV v late (lesser f1 f2) = W at *
          go_wp2_with fail
          refine (same_at m1 _ _ m2 _ _ _ _ id1 w11 HG.out.b HG.out.c hid1 rfl).mono ?_
          rintro e w12 ⟨rfl, h⟩
          obtain rfl := h
          go_wp2_with fail
          refine (same_at m1 _ _ m2 _ _ _ _ id1 w12 HG.out.b HG.out.c hid1 rfl).mono ?_
          rintro e w15 ⟨rfl, h⟩
          obtain rfl := h
          clear l0 l1 n0 n1 n2
          go_wp2_with fail
          go_loopg [30] VL (fun g n wr => w15 = wr ∧ ∃ i : Nat, i ≤ VL ∧ g = VL - i ∧ n = .int .i64 i)
          case atStart => go_light; exact ⟨rfl, 0, Nat.zero_le _, rfl, rfl⟩
          case round =>
            obtain ⟨rfl, i, hi, rfl, rfl⟩ := hrel
            by_cases hiG : i < VL
            · obtain rfl := hk.ga (by omega)
              have hiz : (i : Int) < (VL : Int) := by omega
              have g0 := (hk.since HG.out.since).cell i hiG
              have hKi : (K i).size ≤ maxLen := by have := hF.k i hiG; unfold maxLen; omega
              by_cases hki : K i = id1
              · have hb := str_eq hki
                clear hki
                go_wp2_with fail
                refine (same_at m1 _ _ m2 _ _ _ _ (K i) w15 HG.out.b HG.out.c hKi rfl).mono ?_
                rintro e w13 ⟨rfl, h⟩
                obtain rfl := h
                go_wp2_with fail
                go_roundg (VL - (i + 1))
                case measure => go_light; omega
                case rel => go_light; exact ⟨rfl, i + 1, by omega, rfl, by go_num⟩
              · have hb := str_ne hki
                have HK : Hid (K i ≠ id1) := hki
                clear hki
                go_wp2_with fail
                refine (same_at m1 _ _ m2 _ _ _ _ (K i) w15 HG.out.b HG.out.c hKi rfl).mono ?_
                rintro e w13 ⟨rfl, h⟩
                obtain rfl := h
                go_wp2_with fail
                refine (same_at m1 _ _ m0 _ _ _ _ (K i) w13 HG.out.b HG.out.a hKi (lack_off f late _ HK.out)).mono ?_
                rintro e w14 ⟨rfl, h⟩
                obtain rfl := h
                go_wp2_with fail
                go_roundg (VL - (i + 1))
                case measure => go_light; omega
                case rel => go_light; exact ⟨rfl, i + 1, by omega, rfl, by go_num⟩
            · have hiz : ¬ (i : Int) < (VL : Int) := by omega
              go_wp2_with fail
              go_ret
              exact ⟨rfl, HG.out.since⟩
        | false =>
          have hT9 := hT8
          rw [show szUp f id1 a = a + 1 by simp [szUp, hh]] at hT9
          clear hT8
          have l0 := hT9.a.look hid1
          have l1 := hT9.b.look hid1
          rw [lack_at, Option.getD_some, Option.isSome_some] at l1
          rw [hh] at l0
          have ha : a ≤ 1048576 := by have := hT9.a.le; omega
          have n0 := hT9.a.len good32 3
          have n1 := hT9.b.len good32 3
          have n2 := hT9.c.len good32 3
          have HWE : Hid (∀ F', lesser ((f id1).getD 0) (greater (wrap64 (late - 1)) F') = lowV ((f id1).getD 0) late F') := fun F' => want_eq _ _ _
          have HG : Hid (Three w1 w8 m0 VL f a m1 (VL + 1 + 1) (lack f late id1 (lesser f1 f2)) (a + 1) m2 (VL + 1 + 1) (lack f late id1 (lesser f1 f2)) (a + 1)) := hT9
          clear hT9
          generalize (f id1).getD 0 = v at *
          go_wp2_with fail
          refine (lesser_any f1 f2 w8).mono ?_
          rintro e w9 ⟨rfl, h⟩
          obtain rfl := h
          go_wp2_with fail
          refine (greater_any _ _ w9).mono ?_
          rintro e w10 ⟨rfl, h⟩
          obtain rfl := h
          go_wp2_with fail
          refine (lesser_any v _ w10).mono ?_
          rintro e w11 ⟨rfl, h⟩
          obtain rfl := h
          rw [HWE.out]
          generalize lowV v late (lesser f1 f2) = W at *
          go_wp2_with fail
          refine (same_at m1 _ _ m2 _ _ _ _ id1 w11 HG.out.b HG.out.c hid1 rfl).mono ?_
          rintro e w12 ⟨rfl, h⟩
          obtain rfl := h
          go_wp2_with fail
          refine (same_at m1 _ _ m2 _ _ _ _ id1 w12 HG.out.b HG.out.c hid1 rfl).mono ?_
          rintro e w15 ⟨rfl, h⟩
          obtain rfl := h
          clear l0 l1 n0 n1 n2
          go_wp2_with fail
          go_loopg [30] VL (fun g n wr => w15 = wr ∧ ∃ i : Nat, i ≤ VL ∧ g = VL - i ∧ n = .int .i64 i)
          case atStart => go_light; exact ⟨rfl, 0, Nat.zero_le _, rfl, rfl⟩
          case round =>
            obtain ⟨rfl, i, hi, rfl, rfl⟩ := hrel
            by_cases hiG : i < VL
            · obtain rfl := hk.ga (by omega)
              have hiz : (i : Int) < (VL : Int) := by omega
              have g0 := (hk.since HG.out.since).cell i hiG
              have hKi : (K i).size ≤ maxLen := by have := hF.k i hiG; unfold maxLen; omega
              by_cases hki : K i = id1
              · have hb := str_eq hki
                clear hki
                go_wp2_with fail
                refine (same_at m1 _ _ m2 _ _ _ _ (K i) w15 HG.out.b HG.out.c hKi rfl).mono ?_
                rintro e w13 ⟨rfl, h⟩
                obtain rfl := h
                go_wp2_with fail
                go_roundg (VL - (i + 1))
                case measure => go_light; omega
                case rel => go_light; exact ⟨rfl, i + 1, by omega, rfl, by go_num⟩
              · have hb := str_ne hki
                have HK : Hid (K i ≠ id1) := hki
                clear hki
                go_wp2_with fail
                refine (same_at m1 _ _ m2 _ _ _ _ (K i) w15 HG.out.b HG.out.c hKi rfl).mono ?_
                rintro e w13 ⟨rfl, h⟩
                obtain rfl := h
                go_wp2_with fail
                refine (same_at m1 _ _ m0 _ _ _ _ (K i) w13 HG.out.b HG.out.a hKi (lack_off f late _ HK.out)).mono ?_
                rintro e w14 ⟨rfl, h⟩
                obtain rfl := h
                go_wp2_with fail
                go_roundg (VL - (i + 1))
                case measure => go_light; omega
                case rel => go_light; exact ⟨rfl, i + 1, by omega, rfl, by go_num⟩
            · have hiz : ¬ (i : Int) < (VL : Int) := by omega
              go_wp2_with fail
              go_ret
              exact ⟨rfl, HG.out.since⟩
      · have hi1 := str_ne hii
        have hi2 : (id2.toList == id1.toList) = false := str_ne (fun e => hii e.symm)
        have HI : Hid (id1 ≠ id2) := hii
        rw [lack_comm f late f1 f2 hii] at hT8
        have es1 : szUp (lack f late id1 f1) id2 (szUp f id1 a) = szUp f id2 (szUp f id1 a) := by unfold szUp; rw [lack_off _ _ _ (fun e => hii e.symm)]
        have es2 : szUp (lack f late id2 f2) id1 (szUp f id2 a) = szUp f id1 (szUp f id2 a) := by unfold szUp; rw [lack_off _ _ _ hii]
        rw [es1, es2] at hT8
        clear hii es1 es2
        cases hh : (f id1).isSome with
        | true =>
          cases hh2 : (f id2).isSome with
          | true =>
            have hT9 := hT8
            rw [show szUp f id2 (szUp f id1 a) = a by simp [szUp, hh, hh2], show szUp f id1 (szUp f id2 a) = a by simp [szUp, hh, hh2]] at hT9
            clear hT8
            have l0 := hT9.a.look hid1
            have l0' := hT9.a.look hid2
            have l1 := hT9.b.look hid1
            have l2 := hT9.b.look hid2
            rw [both_1 f late f1 f2 HI.out, Option.getD_some, Option.isSome_some] at l1
            rw [both_2 f late f1 f2 HI.out, Option.getD_some, Option.isSome_some] at l2
            rw [hh] at l0
            rw [hh2] at l0'
            have ha : a ≤ 1048576 := by have := hT9.a.le; omega
            have n0 := hT9.a.len good32 3
            have n1 := hT9.b.len good32 3
            have n2 := hT9.c.len good32 3
            have HWE : Hid (∀ F', lesser ((f id1).getD 0) (greater (wrap64 (late - 1)) F') = lowV ((f id1).getD 0) late F') := fun F' => want_eq _ _ _
            have HWE2 : Hid (∀ F', lesser ((f id2).getD 0) (greater (wrap64 (late - 1)) F') = lowV ((f id2).getD 0) late F') := fun F' => want_eq _ _ _
            have HG : Hid (Three w1 w8 m0 VL f a m1 (VL + 1 + 1) (lack (lack f late id1 f1) late id2 f2) (a) m2 (VL + 1 + 1) (lack (lack f late id1 f1) late id2 f2) (a)) := hT9
            clear hT9
            generalize (f id1).getD 0 = v at *
            generalize (f id2).getD 0 = v' at *
            go_wp2_with fail
            refine (greater_any _ f1 w8).mono ?_
            rintro e w9 ⟨rfl, h⟩
            obtain rfl := h
            go_wp2_with fail
            refine (lesser_any v _ w9).mono ?_
            rintro e w10 ⟨rfl, h⟩
            obtain rfl := h
            rw [HWE.out]
            generalize lowV v late f1 = W at *
            go_wp2_with fail
            refine (greater_any _ f2 w10).mono ?_
            rintro e w11 ⟨rfl, h⟩
            obtain rfl := h
            go_wp2_with fail
            refine (lesser_any v' _ w11).mono ?_
            rintro e w12 ⟨rfl, h⟩
            obtain rfl := h
            rw [HWE2.out]
            generalize lowV v' late f2 = W' at *
            go_wp2_with fail
            refine (same_at m1 _ _ m2 _ _ _ _ id1 w12 HG.out.b HG.out.c hid1 rfl).mono ?_
            rintro e w15 ⟨rfl, h⟩
            obtain rfl := h
            go_wp2_with fail
            refine (same_at m1 _ _ m2 _ _ _ _ id2 w15 HG.out.b HG.out.c hid2 rfl).mono ?_
            rintro e w16 ⟨rfl, h⟩
            obtain rfl := h
            clear l0 l0' l1 l2 n0 n1 n2
            go_wp2_with fail
            go_loopg [30] VL (fun g n wr => w16 = wr ∧ ∃ i : Nat, i ≤ VL ∧ g = VL - i ∧ n = .int .i64 i)
            case atStart => go_light; exact ⟨rfl, 0, Nat.zero_le _, rfl, rfl⟩
            case round =>
              obtain ⟨rfl, i, hi, rfl, rfl⟩ := hrel
              by_cases hiG : i < VL
              · obtain rfl := hk.ga (by omega)
                have hiz : (i : Int) < (VL : Int) := by omega
                have g0 := (hk.since HG.out.since).cell i hiG
                have hKi : (K i).size ≤ maxLen := by have := hF.k i hiG; unfold maxLen; omega
                by_cases hki : K i = id1
                · have hb := str_eq hki
                  clear hki
                  go_wp2_with fail
                  refine (same_at m1 _ _ m2 _ _ _ _ (K i) w16 HG.out.b HG.out.c hKi rfl).mono ?_
                  rintro e w13 ⟨rfl, h⟩
                  obtain rfl := h
                  go_wp2_with fail
                  go_roundg (VL - (i + 1))
                  case measure => go_light; omega
                  case rel => go_light; exact ⟨rfl, i + 1, by omega, rfl, by go_num⟩
                · have hb := str_ne hki
                  have HK : Hid (K i ≠ id1) := hki
                  clear hki
                  by_cases hkj : K i = id2
                  · have hb2 := str_eq hkj
                    clear hkj
                    go_wp2_with fail
                    refine (same_at m1 _ _ m2 _ _ _ _ (K i) w16 HG.out.b HG.out.c hKi rfl).mono ?_
                    rintro e w13 ⟨rfl, h⟩
                    obtain rfl := h
                    go_wp2_with fail
                    go_roundg (VL - (i + 1))
                    case measure => go_light; omega
                    case rel => go_light; exact ⟨rfl, i + 1, by omega, rfl, by go_num⟩
                  · have hb2 := str_ne hkj
                    have HK2 : Hid (K i ≠ id2) := hkj
                    clear hkj
                    go_wp2_with fail
                    refine (same_at m1 _ _ m2 _ _ _ _ (K i) w16 HG.out.b HG.out.c hKi rfl).mono ?_
                    rintro e w13 ⟨rfl, h⟩
                    obtain rfl := h
                    go_wp2_with fail
                    refine (same_at m1 _ _ m0 _ _ _ _ (K i) w13 HG.out.b HG.out.a hKi (both_off f late _ _ HK.out HK2.out)).mono ?_
                    rintro e w14 ⟨rfl, h⟩
                    obtain rfl := h
                    go_wp2_with fail
                    go_roundg (VL - (i + 1))
                    case measure => go_light; omega
                    case rel => go_light; exact ⟨rfl, i + 1, by omega, rfl, by go_num⟩
              · have hiz : ¬ (i : Int) < (VL : Int) := by omega
                go_wp2_with fail
                go_ret
                exact ⟨rfl, HG.out.since⟩
          | false =>
            have hT9 := hT8
            rw [show szUp f id2 (szUp f id1 a) = a + 1 by simp [szUp, hh, hh2], show szUp f id1 (szUp f id2 a) = a + 1 by simp [szUp, hh, hh2]] at hT9
            clear hT8
            have l0 := hT9.a.look hid1
            have l0' := hT9.a.look hid2
            have l1 := hT9.b.look hid1
            have l2 := hT9.b.look hid2
            rw [both_1 f late f1 f2 HI.out, Option.getD_some, Option.isSome_some] at l1
            rw [both_2 f late f1 f2 HI.out, Option.getD_some, Option.isSome_some] at l2
            rw [hh] at l0
            rw [hh2] at l0'
            have ha : a ≤ 1048576 := by have := hT9.a.le; omega
            have n0 := hT9.a.len good32 3
            have n1 := hT9.b.len good32 3
            have n2 := hT9.c.len good32 3
            have HWE : Hid (∀ F', lesser ((f id1).getD 0) (greater (wrap64 (late - 1)) F') = lowV ((f id1).getD 0) late F') := fun F' => want_eq _ _ _
            have HWE2 : Hid (∀ F', lesser ((f id2).getD 0) (greater (wrap64 (late - 1)) F') = lowV ((f id2).getD 0) late F') := fun F' => want_eq _ _ _
            have HG : Hid (Three w1 w8 m0 VL f a m1 (VL + 1 + 1) (lack (lack f late id1 f1) late id2 f2) (a + 1) m2 (VL + 1 + 1) (lack (lack f late id1 f1) late id2 f2) (a + 1)) := hT9
            clear hT9
            generalize (f id1).getD 0 = v at *
            generalize (f id2).getD 0 = v' at *
            go_wp2_with fail
            refine (greater_any _ f1 w8).mono ?_
            rintro e w9 ⟨rfl, h⟩
            obtain rfl := h
            go_wp2_with fail
            refine (lesser_any v _ w9).mono ?_
            rintro e w10 ⟨rfl, h⟩
            obtain rfl := h
            rw [HWE.out]
            generalize lowV v late f1 = W at *
            go_wp2_with fail
            refine (greater_any _ f2 w10).mono ?_
            rintro e w11 ⟨rfl, h⟩
            obtain rfl := h
            go_wp2_with fail
            refine (lesser_any v' _ w11).mono ?_
            rintro e w12 ⟨rfl, h⟩
            obtain rfl := h
            rw [HWE2.out]
            generalize lowV v' late f2 = W' at *
            go_wp2_with fail
            refine (same_at m1 _ _ m2 _ _ _ _ id1 w12 HG.out.b HG.out.c hid1 rfl).mono ?_
            rintro e w15 ⟨rfl, h⟩
            obtain rfl := h
            go_wp2_with fail
            refine (same_at m1 _ _ m2 _ _ _ _ id2 w15 HG.out.b HG.out.c hid2 rfl).mono ?_
            rintro e w16 ⟨rfl, h⟩
            obtain rfl := h
            clear l0 l0' l1 l2 n0 n1 n2
            go_wp2_with fail
            go_loopg [30] VL (fun g n wr => w16 = wr ∧ ∃ i : Nat, i ≤ VL ∧ g = VL - i ∧ n = .int .i64 i)
            case atStart => go_light; exact ⟨rfl, 0, Nat.zero_le _, rfl, rfl⟩
            case round =>
              obtain ⟨rfl, i, hi, rfl, rfl⟩ := hrel
              by_cases hiG : i < VL
              · obtain rfl := hk.ga (by omega)
                have hiz : (i : Int) < (VL : Int) := by omega
                have g0 := (hk.since HG.out.since).cell i hiG
                have hKi : (K i).size ≤ maxLen := by have := hF.k i hiG; unfold maxLen; omega
                by_cases hki : K i = id1
                · have hb := str_eq hki
                  clear hki
                  go_wp2_with fail
                  refine (same_at m1 _ _ m2 _ _ _ _ (K i) w16 HG.out.b HG.out.c hKi rfl).mono ?_
                  rintro e w13 ⟨rfl, h⟩
                  obtain rfl := h
                  go_wp2_with fail
                  go_roundg (VL - (i + 1))
                  case measure => go_light; omega
                  case rel => go_light; exact ⟨rfl, i + 1, by omega, rfl, by go_num⟩
                · have hb := str_ne hki
                  have HK : Hid (K i ≠ id1) := hki
                  clear hki
                  by_cases hkj : K i = id2
                  · have hb2 := str_eq hkj
                    clear hkj
                    go_wp2_with fail
                    refine (same_at m1 _ _ m2 _ _ _ _ (K i) w16 HG.out.b HG.out.c hKi rfl).mono ?_
                    rintro e w13 ⟨rfl, h⟩
                    obtain rfl := h
                    go_wp2_with fail
                    go_roundg (VL - (i + 1))
                    case measure => go_light; omega
                    case rel => go_light; exact ⟨rfl, i + 1, by omega, rfl, by go_num⟩
                  · have hb2 := str_ne hkj
                    have HK2 : Hid (K i ≠ id2) := hkj
                    clear hkj
                    go_wp2_with fail
                    refine (same_at m1 _ _ m2 _ _ _ _ (K i) w16 HG.out.b HG.out.c hKi rfl).mono ?_
                    rintro e w13 ⟨rfl, h⟩
                    obtain rfl := h
                    go_wp2_with fail
                    refine (same_at m1 _ _ m0 _ _ _ _ (K i) w13 HG.out.b HG.out.a hKi (both_off f late _ _ HK.out HK2.out)).mono ?_
                    rintro e w14 ⟨rfl, h⟩
                    obtain rfl := h
                    go_wp2_with fail
                    go_roundg (VL - (i + 1))
                    case measure => go_light; omega
                    case rel => go_light; exact ⟨rfl, i + 1, by omega, rfl, by go_num⟩
              · have hiz : ¬ (i : Int) < (VL : Int) := by omega
                go_wp2_with fail
                go_ret
                exact ⟨rfl, HG.out.since⟩
        | false =>
          cases hh2 : (f id2).isSome with
          | true =>
            have hT9 := hT8
            rw [show szUp f id2 (szUp f id1 a) = a + 1 by simp [szUp, hh, hh2], show szUp f id1 (szUp f id2 a) = a + 1 by simp [szUp, hh, hh2]] at hT9
            clear hT8
            have l0 := hT9.a.look hid1
            have l0' := hT9.a.look hid2
            have l1 := hT9.b.look hid1
            have l2 := hT9.b.look hid2
            rw [both_1 f late f1 f2 HI.out, Option.getD_some, Option.isSome_some] at l1
            rw [both_2 f late f1 f2 HI.out, Option.getD_some, Option.isSome_some] at l2
            rw [hh] at l0
            rw [hh2] at l0'
            have ha : a ≤ 1048576 := by have := hT9.a.le; omega
            have n0 := hT9.a.len good32 3
            have n1 := hT9.b.len good32 3
            have n2 := hT9.c.len good32 3
            have HWE : Hid (∀ F', lesser ((f id1).getD 0) (greater (wrap64 (late - 1)) F') = lowV ((f id1).getD 0) late F') := fun F' => want_eq _ _ _
            have HWE2 : Hid (∀ F', lesser ((f id2).getD 0) (greater (wrap64 (late - 1)) F') = lowV ((f id2).getD 0) late F') := fun F' => want_eq _ _ _
            have HG : Hid (Three w1 w8 m0 VL f a m1 (VL + 1 + 1) (lack (lack f late id1 f1) late id2 f2) (a + 1) m2 (VL + 1 + 1) (lack (lack f late id1 f1) late id2 f2) (a + 1)) := hT9
            clear hT9
            generalize (f id1).getD 0 = v at *
            generalize (f id2).getD 0 = v' at *
            go_wp2_with fail
            refine (greater_any _ f1 w8).mono ?_
            rintro e w9 ⟨rfl, h⟩
            obtain rfl := h
            go_wp2_with fail
            refine (lesser_any v _ w9).mono ?_
            rintro e w10 ⟨rfl, h⟩
            obtain rfl := h
            rw [HWE.out]
            generalize lowV v late f1 = W at *
            go_wp2_with fail
            refine (greater_any _ f2 w10).mono ?_
            rintro e w11 ⟨rfl, h⟩
            obtain rfl := h
            go_wp2_with fail
            refine (lesser_any v' _ w11).mono ?_
            rintro e w12 ⟨rfl, h⟩
            obtain rfl := h
            rw [HWE2.out]
            generalize lowV v' late f2 = W' at *
            go_wp2_with fail
            refine (same_at m1 _ _ m2 _ _ _ _ id1 w12 HG.out.b HG.out.c hid1 rfl).mono ?_
            rintro e w15 ⟨rfl, h⟩
            obtain rfl := h
            go_wp2_with fail
            refine (same_at m1 _ _ m2 _ _ _ _ id2 w15 HG.out.b HG.out.c hid2 rfl).mono ?_
            rintro e w16 ⟨rfl, h⟩
            obtain rfl := h
            clear l0 l0' l1 l2 n0 n1 n2
            go_wp2_with fail
            go_loopg [30] VL (fun g n wr => w16 = wr ∧ ∃ i : Nat, i ≤ VL ∧ g = VL - i ∧ n = .int .i64 i)
            case atStart => go_light; exact ⟨rfl, 0, Nat.zero_le _, rfl, rfl⟩
            case round =>
              obtain ⟨rfl, i, hi, rfl, rfl⟩ := hrel
              by_cases hiG : i < VL
              · obtain rfl := hk.ga (by omega)
                have hiz : (i : Int) < (VL : Int) := by omega
                have g0 := (hk.since HG.out.since).cell i hiG
                have hKi : (K i).size ≤ maxLen := by have := hF.k i hiG; unfold maxLen; omega
                by_cases hki : K i = id1
                · have hb := str_eq hki
                  clear hki
                  go_wp2_with fail
                  refine (same_at m1 _ _ m2 _ _ _ _ (K i) w16 HG.out.b HG.out.c hKi rfl).mono ?_
                  rintro e w13 ⟨rfl, h⟩
                  obtain rfl := h
                  go_wp2_with fail
                  go_roundg (VL - (i + 1))
                  case measure => go_light; omega
                  case rel => go_light; exact ⟨rfl, i + 1, by omega, rfl, by go_num⟩
                · have hb := str_ne hki
                  have HK : Hid (K i ≠ id1) := hki
                  clear hki
                  by_cases hkj : K i = id2
                  · have hb2 := str_eq hkj
                    clear hkj
                    go_wp2_with fail
                    refine (same_at m1 _ _ m2 _ _ _ _ (K i) w16 HG.out.b HG.out.c hKi rfl).mono ?_
                    rintro e w13 ⟨rfl, h⟩
                    obtain rfl := h
                    go_wp2_with fail
                    go_roundg (VL - (i + 1))
                    case measure => go_light; omega
                    case rel => go_light; exact ⟨rfl, i + 1, by omega, rfl, by go_num⟩
                  · have hb2 := str_ne hkj
                    have HK2 : Hid (K i ≠ id2) := hkj
                    clear hkj
                    go_wp2_with fail
                    refine (same_at m1 _ _ m2 _ _ _ _ (K i) w16 HG.out.b HG.out.c hKi rfl).mono ?_
                    rintro e w13 ⟨rfl, h⟩
                    obtain rfl := h
                    go_wp2_with fail
                    refine (same_at m1 _ _ m0 _ _ _ _ (K i) w13 HG.out.b HG.out.a hKi (both_off f late _ _ HK.out HK2.out)).mono ?_
                    rintro e w14 ⟨rfl, h⟩
                    obtain rfl := h
                    go_wp2_with fail
                    go_roundg (VL - (i + 1))
                    case measure => go_light; omega
                    case rel => go_light; exact ⟨rfl, i + 1, by omega, rfl, by go_num⟩
              · have hiz : ¬ (i : Int) < (VL : Int) := by omega
                go_wp2_with fail
                go_ret
                exact ⟨rfl, HG.out.since⟩
          | false =>
            have hT9 := hT8
            rw [show szUp f id2 (szUp f id1 a) = a + 1 + 1 by simp [szUp, hh, hh2], show szUp f id1 (szUp f id2 a) = a + 1 + 1 by simp [szUp, hh, hh2]] at hT9
            clear hT8
            have l0 := hT9.a.look hid1
            have l0' := hT9.a.look hid2
            have l1 := hT9.b.look hid1
            have l2 := hT9.b.look hid2
            rw [both_1 f late f1 f2 HI.out, Option.getD_some, Option.isSome_some] at l1
            rw [both_2 f late f1 f2 HI.out, Option.getD_some, Option.isSome_some] at l2
            rw [hh] at l0
            rw [hh2] at l0'
            have ha : a ≤ 1048576 := by have := hT9.a.le; omega
            have n0 := hT9.a.len good32 3
            have n1 := hT9.b.len good32 3
            have n2 := hT9.c.len good32 3
            have HWE : Hid (∀ F', lesser ((f id1).getD 0) (greater (wrap64 (late - 1)) F') = lowV ((f id1).getD 0) late F') := fun F' => want_eq _ _ _
            have HWE2 : Hid (∀ F', lesser ((f id2).getD 0) (greater (wrap64 (late - 1)) F') = lowV ((f id2).getD 0) late F') := fun F' => want_eq _ _ _
            have HG : Hid (Three w1 w8 m0 VL f a m1 (VL + 1 + 1) (lack (lack f late id1 f1) late id2 f2) (a + 1 + 1) m2 (VL + 1 + 1) (lack (lack f late id1 f1) late id2 f2) (a + 1 + 1)) := hT9
            clear hT9
            generalize (f id1).getD 0 = v at *
            generalize (f id2).getD 0 = v' at *
            go_wp2_with fail
            refine (greater_any _ f1 w8).mono ?_
            rintro e w9 ⟨rfl, h⟩
            obtain rfl := h
            go_wp2_with fail
            refine (lesser_any v _ w9).mono ?_
            rintro e w10 ⟨rfl, h⟩
            obtain rfl := h
            rw [HWE.out]
            generalize lowV v late f1 = W at *
            go_wp2_with fail
            refine (greater_any _ f2 w10).mono ?_
            rintro e w11 ⟨rfl, h⟩
            obtain rfl := h
            go_wp2_with fail
            refine (lesser_any v' _ w11).mono ?_
            rintro e w12 ⟨rfl, h⟩
            obtain rfl := h
            rw [HWE2.out]
            generalize lowV v' late f2 = W' at *
            go_wp2_with fail
            refine (same_at m1 _ _ m2 _ _ _ _ id1 w12 HG.out.b HG.out.c hid1 rfl).mono ?_
            rintro e w15 ⟨rfl, h⟩
            obtain rfl := h
            go_wp2_with fail
            refine (same_at m1 _ _ m2 _ _ _ _ id2 w15 HG.out.b HG.out.c hid2 rfl).mono ?_
            rintro e w16 ⟨rfl, h⟩
            obtain rfl := h
            clear l0 l0' l1 l2 n0 n1 n2
            go_wp2_with fail
            go_loopg [30] VL (fun g n wr => w16 = wr ∧ ∃ i : Nat, i ≤ VL ∧ g = VL - i ∧ n = .int .i64 i)
            case atStart => go_light; exact ⟨rfl, 0, Nat.zero_le _, rfl, rfl⟩
            case round =>
              obtain ⟨rfl, i, hi, rfl, rfl⟩ := hrel
              by_cases hiG : i < VL
              · obtain rfl := hk.ga (by omega)
                have hiz : (i : Int) < (VL : Int) := by omega
                have g0 := (hk.since HG.out.since).cell i hiG
                have hKi : (K i).size ≤ maxLen := by have := hF.k i hiG; unfold maxLen; omega
                by_cases hki : K i = id1
                · have hb := str_eq hki
                  clear hki
                  go_wp2_with fail
                  refine (same_at m1 _ _ m2 _ _ _ _ (K i) w16 HG.out.b HG.out.c hKi rfl).mono ?_
                  rintro e w13 ⟨rfl, h⟩
                  obtain rfl := h
                  go_wp2_with fail
                  go_roundg (VL - (i + 1))
                  case measure => go_light; omega
                  case rel => go_light; exact ⟨rfl, i + 1, by omega, rfl, by go_num⟩
                · have hb := str_ne hki
                  have HK : Hid (K i ≠ id1) := hki
                  clear hki
                  by_cases hkj : K i = id2
                  · have hb2 := str_eq hkj
                    clear hkj
                    go_wp2_with fail
                    refine (same_at m1 _ _ m2 _ _ _ _ (K i) w16 HG.out.b HG.out.c hKi rfl).mono ?_
                    rintro e w13 ⟨rfl, h⟩
                    obtain rfl := h
                    go_wp2_with fail
                    go_roundg (VL - (i + 1))
                    case measure => go_light; omega
                    case rel => go_light; exact ⟨rfl, i + 1, by omega, rfl, by go_num⟩
                  · have hb2 := str_ne hkj
                    have HK2 : Hid (K i ≠ id2) := hkj
                    clear hkj
                    go_wp2_with fail
                    refine (same_at m1 _ _ m2 _ _ _ _ (K i) w16 HG.out.b HG.out.c hKi rfl).mono ?_
                    rintro e w13 ⟨rfl, h⟩
                    obtain rfl := h
                    go_wp2_with fail
                    refine (same_at m1 _ _ m0 _ _ _ _ (K i) w13 HG.out.b HG.out.a hKi (both_off f late _ _ HK.out HK2.out)).mono ?_
                    rintro e w14 ⟨rfl, h⟩
                    obtain rfl := h
                    go_wp2_with fail
                    go_roundg (VL - (i + 1))
                    case measure => go_light; omega
                    case rel => go_light; exact ⟨rfl, i + 1, by omega, rfl, by go_num⟩
              · have hiz : ¬ (i : Int) < (VL : Int) := by omega
                go_wp2_with fail
                go_ret
                exact ⟨rfl, HG.out.since⟩
    · have hne' : ((VL : Int) != (G : Int)) = true := by simp; omega
      go_wp2_with fail
      go_ret
      exact ⟨rfl, World.Since.refl _ _⟩

end Go.Proofs.Qxb6618655a
