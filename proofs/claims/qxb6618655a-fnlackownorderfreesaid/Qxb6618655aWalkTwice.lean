/-
  leeway: THE WALK OF FnLackOwnTwiceIsOnceAtTheLesser (5).
-/
import Derived.Test.Qxb6618655aBytes
namespace Go.Proofs.Qxb6618655a
open Go.RowKit
set_option linter.unusedVariables false

/-! ### The plain law -/
theorem low_twice (v late f1 f2 : Int) : lowV (lowV v late f1) late f2 = lowV v late (lesser f1 f2) := by
  unfold lowV lesser
  generalize wrap64 (late - 1) = l
  repeat' split
  all_goals omega

theorem want_eq (v late F : Int) : lesser v (greater (wrap64 (late - 1)) F) = lowV v late F := by
  unfold lowV lesser greater
  generalize wrap64 (late - 1) = l
  repeat' split
  all_goals omega

theorem upd_upd {f : ByteArray → Option Int} {x : ByteArray} {a b : Int} : upd (upd f x a) x b = upd f x b := by
  funext z
  by_cases e : z = x
  · subst e; rw [upd_same, upd_same]
  · rw [upd_other _ _ e, upd_other _ _ e, upd_other _ _ e]

theorem lack_twice (f : ByteArray → Option Int) (late : Int) (id : ByteArray) (f1 f2 : Int) : lack (lack f late id f1) late id f2 = lack f late id (lesser f1 f2) := by
  unfold lack
  rw [upd_upd, upd_same, Option.getD_some, low_twice]

theorem lack_at (f : ByteArray → Option Int) (late : Int) (id : ByteArray) (F : Int) : lack f late id F id = some (lowV ((f id).getD 0) late F) := upd_same _ _ _
theorem lack_off (f : ByteArray → Option Int) (late : Int) {id s : ByteArray} (F : Int) (h : s ≠ id) : lack f late id F s = f s := upd_other _ _ h
theorem szUp_lack (f : ByteArray → Option Int) (late : Int) (id : ByteArray) (F : Int) (n : Nat) : szUp (lack f late id F) id n = n := by simp [szUp, lack_at]

theorem IM.size_eq {w w' : World} {b n sz b' n' sz' : Nat} {f : ByteArray → Option Int} (h : IM w b n f sz) (h' : IM w' b' n' f sz') : sz = sz' :=
  Nat.le_antisymm (h.size_le good32 h' good32 (fun _ => rfl) (fun _ h => h) (fun _ _ h => h)) (h'.size_le good32 h good32 (fun _ => rfl) (fun _ h => h) (fun _ _ h => h))

theorem str_eq {a b : ByteArray} (h : a = b) : (a.toList == b.toList) = true := by rw [h]; simp
theorem str_ne {a b : ByteArray} (h : a ≠ b) : (a.toList == b.toList) = false := by
  cases hb : (a.toList == b.toList)
  · rfl
  · exact absurd (bytes_inj (by have := eq_of_beq hb; rwa [ByteArray.toList_eq, ByteArray.toList_eq] at this)) h

/-! ### Three maps -/
structure Three (w wr : World) (m0 n0 : Nat) (f0 : ByteArray → Option Int) (s0 m1 n1 : Nat) (f1 : ByteArray → Option Int) (s1 m2 n2 : Nat) (f2 : ByteArray → Option Int) (s2 : Nat) : Prop where
  since : w.Since w.heap.size wr
  a : IM wr m0 n0 f0 s0
  b : IM wr m1 n1 f1 s1
  c : IM wr m2 n2 f2 s2
  la : w.heap.size ≤ m0
  lb : w.heap.size ≤ m1
  lc : w.heap.size ≤ m2
  ab : m0 ≠ m1
  ac : m0 ≠ m2
  bc : m1 ≠ m2

section
variable {w wr w' : World} {m0 n0 s0 m1 n1 s1 m2 n2 s2 : Nat} {f0 f1 f2 : ByteArray → Option Int}
theorem Three.putB (h : Three w wr m0 n0 f0 s0 m1 n1 f1 s1 m2 n2 f2 s2) {n1' s1' : Nat} {f1' : ByteArray → Option Int} (hM : IM w' m1 n1' f1' s1') (hg : wr.grownBy w' (some m1)) : Three w w' m0 n0 f0 s0 m1 n1' f1' s1' m2 n2 f2 s2 := by
  have hb : ∀ i, i ≠ m1 → i < wr.heap.size → w'.heap[i]? = wr.heap[i]? := fun i h1 h2 => hg.block i h2 (fun e => h1 (by cases e; rfl))
  exact ⟨h.since.grown hg h.since.size (fun k e => by cases e; exact h.lb), h.a.of_block (hb _ h.ab h.a.lt), hM, h.c.of_block (hb _ h.bc.symm h.c.lt), h.la, h.lb, h.lc, h.ab, h.ac, h.bc⟩
theorem Three.putC (h : Three w wr m0 n0 f0 s0 m1 n1 f1 s1 m2 n2 f2 s2) {n2' s2' : Nat} {f2' : ByteArray → Option Int} (hM : IM w' m2 n2' f2' s2') (hg : wr.grownBy w' (some m2)) : Three w w' m0 n0 f0 s0 m1 n1 f1 s1 m2 n2' f2' s2' := by
  have hb : ∀ i, i ≠ m2 → i < wr.heap.size → w'.heap[i]? = wr.heap[i]? := fun i h1 h2 => hg.block i h2 (fun e => h1 (by cases e; rfl))
  exact ⟨h.since.grown hg h.since.size (fun k e => by cases e; exact h.lc), h.a.of_block (hb _ h.ac h.a.lt), h.b.of_block (hb _ h.bc h.b.lt), hM, h.la, h.lb, h.lc, h.ab, h.ac, h.bc⟩
end

theorem three_start {w w1 w2 w3 : World} {K : Nat → ByteArray} {V : Nat → Int} {G a b c : Nat} (h1 : BuildAt w w1 K V G a) (h2 : BuildAt w1 w2 K V G b) (h3 : BuildAt w2 w3 K V G c) :
    Three w w3 w.heap.size G (known K V G) a w1.heap.size G (known K V G) a w2.heap.size G (known K V G) a := by
  have z1 := h1.size
  have z2 := h2.size
  have e1 := h1.map.size_eq h2.map
  have e2 := h1.map.size_eq h3.map
  subst e1 e2
  refine ⟨(h1.since.trans (since_mono h2.since (by omega))).trans (since_mono h3.since (by omega)), (h1.map.of_block (h2.since.block _ (by omega))).of_block (h3.since.block _ (by omega)), h2.map.of_block (h3.since.block _ (by omega)), h3.map, Nat.le_refl _, by omega, by omega, by omega, by omega, by omega⟩

def Law (w : World) (e : Ending) (w' : World) : Prop := e = .returned (.bool true) ∧ w.Since w.heap.size w'

set_option maxHeartbeats 4000000 in
set_option maxRecDepth 100000 in
theorem twice_walk (ga : Option Addr) (gb go G Gc : Nat) (K : Nat → ByteArray) (va : Option Addr) (vb vo VL Vc : Nat) (V : Nat → Int) (late : Int) (id : ByteArray) (f1 f2 : Int) (w : World)
    (hG : G ≤ maxLen) (hK : ∀ i, i < G → (K i).size ≤ maxLen) (hV : VL ≤ maxLen) (hid : id.size ≤ maxLen) (hk : Keys w ga gb go G K) (hv : Vals w va vb vo VL V) (hf1 : (Lit.int .i64 f1).wf = true) (hf2 : (Lit.int .i64 f2).wf = true) :
    Calls Try.prog 5 #[.slice ga G Gc, .slice va VL Vc, .int .i64 late, .string id, .int .i64 f1, .int .i64 f2] w (Law w) := by
  have HB : Hid (Calls Try.prog 10 #[.slice ga G Gc, .slice va VL Vc, .int .i64 late, .string id, .int .i64 f1, .int .i64 f2] w (Answers1 G K VL id.size w)) := bytes_twice ga gb go G Gc K va VL Vc late id f1 f2 w hG hK hV hid hk
  have HV : Hid (VL ≤ maxLen) := hV
  unfold maxLen at hG
  clear hK hV
  go_enter Try.func5, Try.ntmps5
  go_wp2_with fail
  refine HB.out.mono ?_
  rintro e w0 ⟨⟨b, rfl, hfit⟩, h⟩
  obtain rfl := h
  clear HB
  cases b with
  | false =>
    go_wp2_with fail
    go_ret
    exact ⟨rfl, World.Since.refl _ _⟩
  | true =>
  obtain ⟨hF, hVL, hid2⟩ := hfit rfl
  clear hfit
  go_wp2_with fail
  refine (known_bytes ga gb go G Gc K va VL Vc id.size w0 hF.g hF.k hk hVL (by omega) (by omega)).mono ?_
  rintro e w1 ⟨⟨z, rfl⟩, h⟩
  obtain rfl := h
  by_cases hz : (1048576 : Int) < z
  · go_wp2_with fail
    go_ret
    exact ⟨rfl, World.Since.refl _ _⟩
  · by_cases hne : VL = G
    · subst hne
      go_wp2_with fail
      refine (build_any ga gb go VL Gc K va vb vo Vc V w1 hF.g hF.k hk hv).mono ?_
      rintro e w2 ⟨rfl, a, hb1⟩
      go_wp2_with fail
      refine (build_any ga gb go VL Gc K va vb vo Vc V w2 hF.g hF.k (hk.since hb1.since) (hv.since hb1.since)).mono ?_
      rintro e w3 ⟨rfl, b, hb2⟩
      have s2 := hb1.since.trans (since_mono hb2.since (Nat.le_of_lt hb1.size))
      go_wp2_with fail
      refine (build_any ga gb go VL Gc K va vb vo Vc V w3 hF.g hF.k (hk.since s2) (hv.since s2)).mono ?_
      rintro e w4 ⟨rfl, c, hb3⟩
      have hT := three_start hb1 hb2 hb3
      clear hb1 hb2 hb3 s2
      generalize known K V VL = f at *
      generalize w1.heap.size = m0 at *
      generalize w2.heap.size = m1 at *
      generalize w3.heap.size = m2 at *
      clear w2 w3
      go_wp2_with fail
      refine (zlack_own m1 VL a f late f1 id w4 hT.b (by omega) hid hf1).mono ?_
      rintro e w5 ⟨rfl, hM5, hg5⟩
      have hT5 := hT.putB hM5 hg5
      clear hT hM5 hg5
      go_wp2_with fail
      refine (zlack_own m1 (VL + 1) _ _ late f2 id w5 hT5.b (by omega) hid hf2).mono ?_
      rintro e w6 ⟨rfl, hM6, hg6⟩
      have hT6 := hT5.putB hM6 hg6
      rw [lack_twice, szUp_lack] at hT6
      clear hT5 hM6 hg6
      have hfl : (Lit.int .i64 (lesser f1 f2)).wf = true := by
        unfold lesser
        by_cases h : f1 < f2
        · rw [if_pos h]; exact hf1
        · rw [if_neg h]; exact hf2
      go_wp2_with fail
      refine (lesser_any f1 f2 w6).mono ?_
      rintro e w7 ⟨rfl, h⟩
      obtain rfl := h
      generalize hF0 : lesser f1 f2 = F at *
      have HF : Hid (lesser f1 f2 = F) := hF0
      clear hF0
      go_wp2_with fail
      refine (zlack_own m2 VL a f late F id w7 hT6.c (by omega) hid hfl).mono ?_
      rintro e w8 ⟨rfl, hM8, hg8⟩
      have hT8 := hT6.putC hM8 hg8
      clear hT6 hM8 hg8
      cases hh : (f id).isSome with
      | true =>
        have hT9 := hT8
        rw [show szUp f id a = a by simp [szUp, hh]] at hT9
        clear hT8
        have l0 := hT9.a.look hid
        have l1 := hT9.b.look hid
        rw [lack_at, Option.getD_some, Option.isSome_some] at l1
        rw [hh] at l0
        have ha : a ≤ 1048576 := by have := hT9.a.le; omega
        have n0 := hT9.a.len good32 3
        have n1 := hT9.b.len good32 3
        have n2 := hT9.c.len good32 3
        have HWE : Hid (∀ F', lesser ((f id).getD 0) (greater (wrap64 (late - 1)) F') = lowV ((f id).getD 0) late F') := fun F' => want_eq _ _ _
        have HG : Hid (Three w1 w8 m0 VL f a m1 (VL + 1 + 1) (lack f late id F) (a) m2 (VL + 1) (lack f late id F) (a)) := hT9
        clear hT9
        generalize (f id).getD 0 = v at *
        go_wp2_with fail
        refine (lesser_any f1 f2 w8).mono ?_
        rintro e w9 ⟨rfl, h⟩
        obtain rfl := h
        rw [HF.out]
        go_wp2_with fail
        refine (greater_any _ F w9).mono ?_
        rintro e w10 ⟨rfl, h⟩
        obtain rfl := h
        go_wp2_with fail
        refine (lesser_any v _ w10).mono ?_
        rintro e w11 ⟨rfl, h⟩
        obtain rfl := h
        rw [HWE.out]
        generalize lowV v late F = W at *
        go_wp2_with fail
        refine (same_at m1 _ _ m2 _ _ _ _ id w11 HG.out.b HG.out.c hid rfl).mono ?_
        rintro e w12 ⟨rfl, h⟩
        obtain rfl := h
        clear l0 l1 n0 n1 n2
        go_wp2_with fail
        go_loopg [22] VL (fun g n wr => w12 = wr ∧ ∃ i : Nat, i ≤ VL ∧ g = VL - i ∧ n = .int .i64 i)
        case atStart => go_light; exact ⟨rfl, 0, Nat.zero_le _, rfl, rfl⟩
        case round =>
          obtain ⟨rfl, i, hi, rfl, rfl⟩ := hrel
          by_cases hiG : i < VL
          · obtain rfl := hk.ga (by omega)
            have hiz : (i : Int) < (VL : Int) := by omega
            have g0 := (hk.since HG.out.since).cell i hiG
            have hKi : (K i).size ≤ maxLen := by have := hF.k i hiG; unfold maxLen; omega
            by_cases hki : K i = id
            · have hb := str_eq hki
              clear hki
              go_wp2_with fail
              refine (same_at m1 _ _ m2 _ _ _ _ (K i) w12 HG.out.b HG.out.c hKi rfl).mono ?_
              rintro e w13 ⟨rfl, h⟩
              obtain rfl := h
              go_wp2_with fail
              go_roundg (VL - (i + 1))
              case measure => go_light; omega
              case rel => go_light; exact ⟨rfl, i + 1, by omega, rfl, by go_num⟩
            · have hb := str_ne hki
              have HK : Hid (K i ≠ id) := hki
              clear hki
              go_wp2_with fail
              refine (same_at m1 _ _ m2 _ _ _ _ (K i) w12 HG.out.b HG.out.c hKi rfl).mono ?_
              rintro e w13 ⟨rfl, h⟩
              obtain rfl := h
              go_wp2_with fail
              refine (same_at m1 _ _ m0 _ _ _ _ (K i) w13 HG.out.b HG.out.a hKi (lack_off f late F HK.out)).mono ?_
              rintro e w14 ⟨rfl, h⟩
              obtain rfl := h
              go_wp2_with fail
              go_roundg (VL - (i + 1))
              case measure => go_light; omega
              case rel => go_light; exact ⟨rfl, i + 1, by omega, rfl, by go_num⟩
          · have hiz : ¬ (i : Int) < (VL : Int) := by omega
            go_wp2_with fail
            go_ret
            exact ⟨rfl, HG.out.since⟩
      | false =>
        have hT9 := hT8
        rw [show szUp f id a = a + 1 by simp [szUp, hh]] at hT9
        clear hT8
        have l0 := hT9.a.look hid
        have l1 := hT9.b.look hid
        rw [lack_at, Option.getD_some, Option.isSome_some] at l1
        rw [hh] at l0
        have ha : a ≤ 1048576 := by have := hT9.a.le; omega
        have n0 := hT9.a.len good32 3
        have n1 := hT9.b.len good32 3
        have n2 := hT9.c.len good32 3
        have HWE : Hid (∀ F', lesser ((f id).getD 0) (greater (wrap64 (late - 1)) F') = lowV ((f id).getD 0) late F') := fun F' => want_eq _ _ _
        have HG : Hid (Three w1 w8 m0 VL f a m1 (VL + 1 + 1) (lack f late id F) (a + 1) m2 (VL + 1) (lack f late id F) (a + 1)) := hT9
        clear hT9
        generalize (f id).getD 0 = v at *
        go_wp2_with fail
        refine (lesser_any f1 f2 w8).mono ?_
        rintro e w9 ⟨rfl, h⟩
        obtain rfl := h
        rw [HF.out]
        go_wp2_with fail
        refine (greater_any _ F w9).mono ?_
        rintro e w10 ⟨rfl, h⟩
        obtain rfl := h
        go_wp2_with fail
        refine (lesser_any v _ w10).mono ?_
        rintro e w11 ⟨rfl, h⟩
        obtain rfl := h
        rw [HWE.out]
        generalize lowV v late F = W at *
        go_wp2_with fail
        refine (same_at m1 _ _ m2 _ _ _ _ id w11 HG.out.b HG.out.c hid rfl).mono ?_
        rintro e w12 ⟨rfl, h⟩
        obtain rfl := h
        clear l0 l1 n0 n1 n2
        go_wp2_with fail
        go_loopg [22] VL (fun g n wr => w12 = wr ∧ ∃ i : Nat, i ≤ VL ∧ g = VL - i ∧ n = .int .i64 i)
        case atStart => go_light; exact ⟨rfl, 0, Nat.zero_le _, rfl, rfl⟩
        case round =>
          obtain ⟨rfl, i, hi, rfl, rfl⟩ := hrel
          by_cases hiG : i < VL
          · obtain rfl := hk.ga (by omega)
            have hiz : (i : Int) < (VL : Int) := by omega
            have g0 := (hk.since HG.out.since).cell i hiG
            have hKi : (K i).size ≤ maxLen := by have := hF.k i hiG; unfold maxLen; omega
            by_cases hki : K i = id
            · have hb := str_eq hki
              clear hki
              go_wp2_with fail
              refine (same_at m1 _ _ m2 _ _ _ _ (K i) w12 HG.out.b HG.out.c hKi rfl).mono ?_
              rintro e w13 ⟨rfl, h⟩
              obtain rfl := h
              go_wp2_with fail
              go_roundg (VL - (i + 1))
              case measure => go_light; omega
              case rel => go_light; exact ⟨rfl, i + 1, by omega, rfl, by go_num⟩
            · have hb := str_ne hki
              have HK : Hid (K i ≠ id) := hki
              clear hki
              go_wp2_with fail
              refine (same_at m1 _ _ m2 _ _ _ _ (K i) w12 HG.out.b HG.out.c hKi rfl).mono ?_
              rintro e w13 ⟨rfl, h⟩
              obtain rfl := h
              go_wp2_with fail
              refine (same_at m1 _ _ m0 _ _ _ _ (K i) w13 HG.out.b HG.out.a hKi (lack_off f late F HK.out)).mono ?_
              rintro e w14 ⟨rfl, h⟩
              obtain rfl := h
              go_wp2_with fail
              go_roundg (VL - (i + 1))
              case measure => go_light; omega
              case rel => go_light; exact ⟨rfl, i + 1, by omega, rfl, by go_num⟩
          · have hiz : ¬ (i : Int) < (VL : Int) := by omega
            go_wp2_with fail
            go_ret
            exact ⟨rfl, HG.out.since⟩
    · have hne' : ((VL : Int) != (G : Int)) = true := by simp; omega
      go_wp2_with fail
      go_ret
      exact ⟨rfl, World.Since.refl _ _⟩

end Go.Proofs.Qxb6618655a
