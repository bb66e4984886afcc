/-
  THE WALK OF FnCopyObjectOfNumbersIsEqualAndApart (3).
-/
import Derived.Test.Qxb6618627aTwo
import Derived.Deep.RegionHeld3
namespace Go.Proofs.Qxb6618627a
open Go.RowKit
set_option linter.unusedVariables false
attribute [local go_sem] run_store_float ta40_49 ta40_50 ta40_40 ta49_49 ta50_49 ta50_50

def Law2 (w : World) (e : Ending) (w' : World) : Prop := e = .returned (.bool true) ∧ w.Since w.heap.size w'

theorem Try.info24 : (Try.prog.info? 24).map (fun i => (i.zero, i.size, i.bytes)) = some (some (.slice none 0 0), 1, 24) := by kernel_rfl
theorem Try.info9' : (Try.prog.info? 9).map (fun i => (i.zero, i.size, i.bytes)) = some (some (.string ByteArray.empty), 1, 16) := by kernel_rfl

/-- While the keys and the lists are gathered. -/
structure Gather (w wr : World) (G : Nat) (K : Nat → ByteArray) (A : Nat → Option Addr) (L C : Nat → Nat) (kb lb i : Nat) (fr : ByteArray) : Prop where
  since : w.Since w.heap.size wr
  keys : wr.rowIs kb 9 G (fun j => if j < i then .string (K j) else .string ByteArray.empty)
  lists : wr.rowIs lb 24 G (fun j => if j < i then .slice (A j) (L j) (C j) else .slice none 0 0)
  hk : w.heap.size ≤ kb
  hl : w.heap.size ≤ lb
  hne : kb ≠ lb
  long : ∀ j, j < i → (K j).size < fr.size
  pos : 0 < fr.size
  small : fr.size ≤ 1048577

theorem gather_start {w wr : World} (hs : w.Since w.heap.size wr) (G : Nat) (K : Nat → ByteArray) (A : Nat → Option Addr) (L C : Nat → Nat) :
    Gather w ((wr.alloc (.cells (madeCells #[.string ByteArray.empty] G) 9)).alloc (.cells (madeCells #[.slice none 0 0] G) 24)) G K A L C wr.heap.size (wr.heap.size + 1) 0 ⟨#[33]⟩ := by
  have h2 := World.rowIs_made (wr.alloc (.cells (madeCells #[.string ByteArray.empty] G) 9)) (.slice none 0 0) G 24
  rw [show (wr.alloc (.cells (madeCells #[.string ByteArray.empty] G) 9)).heap.size = wr.heap.size + 1 by simp] at h2
  exact ⟨(hs.alloc hs.size _).alloc (by simp; have := hs.size; omega) _, ((World.rowIs_made wr (.string ByteArray.empty) G 9).alloc _).congr (fun j _ => by simp), h2.congr (fun j _ => by simp), hs.size, by have := hs.size; omega, by omega, fun j hj => by omega, by decide, by decide⟩

theorem gather_step {w wr : World} {G : Nat} {K : Nat → ByteArray} {A : Nat → Option Addr} {L C : Nat → Nat} {kb lb i : Nat} {fr fr' : ByteArray} (h : Gather w wr G K A L C kb lb i fr) (hle : fr.size ≤ fr'.size) (hK : (K i).size < fr'.size) (hs : fr'.size ≤ 1048577) :
    Gather w ((wr.setCell ⟨kb, i, none⟩ (.string (K i))).setCell ⟨lb, i, none⟩ (.slice (A i) (L i) (C i))) G K A L C kb lb (i + 1) fr' := by
  refine ⟨(h.since.setCell h.hk _).setCell h.hl _, (((h.keys.set i _).setOther h.hne _)).congr (fun j _ => ?_), ((h.lists.setOther h.hne.symm _).set i _).congr (fun j _ => ?_), h.hk, h.hl, h.hne, fun j hj => ?_, by have := h.pos; omega, hs⟩
  · by_cases e : j = i
    · subst e; simp
    · rw [if_neg e]
      by_cases hlt : j < i
      · rw [if_pos hlt, if_pos (by omega)]
      · rw [if_neg hlt, if_neg (by omega)]
  · by_cases e : j = i
    · subst e; simp
    · rw [if_neg e]
      by_cases hlt : j < i
      · rw [if_pos hlt, if_pos (by omega)]
      · rw [if_neg hlt, if_neg (by omega)]
  · by_cases e : j = i
    · subst e; exact hK
    · have := h.long j (by omega); omega

theorem cat_bang (a : ByteArray) (h : a.size ≤ 1048576) (w : World) : (Op.stringOp .add a ⟨#[33]⟩).run Try.prog w = .ok (.string (a ++ ⟨#[33]⟩)) w :=
  run_string_add_sum w _ _ (by show a.size + 1 ≤ _; omega)
theorem size_bang (a : ByteArray) : (a ++ ⟨#[33]⟩ : ByteArray).size = a.size + 1 := by rw [ByteArray.size_append]; rfl

/-- What an object holds at the last place of each key. -/
structure LastAt (G : Nat) (K : Nat → ByteArray) (L : Nat → Nat) (X : Nat → Nat → Nat) (f : ByteArray → Option (Nat × Nat)) (Y : ByteArray → Nat → Nat) : Prop where
  there : ∀ j, j < G → isLast K G j = true → ∃ b, f (K j) = some (b, L j)
  y : ∀ j, j < G → isLast K G j = true → Y (K j) = X j

theorem last_place (K : Nat → ByteArray) (L : Nat → Nat) (X : Nat → Nat → Nat) (G N : Nat) : LastAt G K L X (place K L N G) (lastY K X G) := by
  refine ⟨fun j hj hl => ?_, fun j hj hl => ?_⟩
  · have e : lastIdx K G (K j) = some j := by simpa [isLast] using hl
    exact ⟨N + j, by simp [place, e]⟩
  · have e : lastIdx K G (K j) = some j := by simpa [isLast] using hl
    simp [lastY, e]

theorem place_none {K : Nat → ByteArray} {L : Nat → Nat} {N G : Nat} {fr : ByteArray} (h : ∀ j, j < G → (K j).size < fr.size) : place K L N G fr = none := by
  unfold place
  rw [lastIdx_none (fun j hj e => by have := h j hj; rw [e] at this; omega)]
  rfl

theorem fc_last {G : Nat} {K : Nat → ByteArray} {L : Nat → Nat} {X : Nat → Nat → Nat} {f f' : ByteArray → Option (Nat × Nat)} {Y : ByteArray → Nat → Nat} {w w' : World} {m n sz : Nat} (h : LastAt G K L X f Y) (hc : Copied w w' m n f sz Y f') (hF : FitsE G K L) : LastAt G K L X f' Y := by
  refine ⟨fun j hj hl => ?_, h.y⟩
  obtain ⟨b, hb⟩ := h.there j hj hl
  obtain ⟨b', hb', _⟩ := hc.done (K j) (by have := hF.k j hj; unfold maxLen; omega) _ hb
  exact ⟨b', hb'⟩

theorem LastAt.upd {G : Nat} {K : Nat → ByteArray} {L : Nat → Nat} {X : Nat → Nat → Nat} {f : ByteArray → Option (Nat × Nat)} {Y : ByteArray → Nat → Nat} {fr : ByteArray} {p : Nat × Nat} (h : LastAt G K L X f Y) (hl : ∀ j, j < G → (K j).size < fr.size) : LastAt G K L X (upd f fr p) Y := by
  refine ⟨fun j hj hlast => ?_, h.y⟩
  obtain ⟨b, hb⟩ := h.there j hj hlast
  exact ⟨b, by rw [upd_other _ _ (fun e => by have := hl j hj; rw [e] at this; omega)]; exact hb⟩

theorem box_row (w : World) (v : Value) : (w.alloc (.cells #[v] 30)).rowIs w.heap.size 30 1 (fun _ => v) := by
  refine World.rowIs_alloc w #[v] 30 _ ?_
  intro i hi
  have : i = 0 := by simp at hi; omega
  subst this; rfl

theorem two_start {w W1 w2 : World} {mo n bo D : Nat} {fo fc : ByteArray → Option (Nat × Nat)} {Yo : ByteArray → Nat → Nat} {mc : Nat} (s : w.Since w.heap.size W1) (o : Obj1 W1 mo n fo D Yo) (vo : W1.rowIs bo 30 1 (fun _ => .iface 49 (.map (some mo)))) (hc : Copied W1 w2 mc n fo D Yo fc)
    (hmo : mo < W1.heap.size) (hfo : ∀ s, s.size ≤ maxLen → ∀ p, fo s = some p → p.1 < W1.heap.size) (hbo : bo < W1.heap.size) :
    Two w (w2.alloc (.cells #[.iface 49 (.map (some mc))] 30)) W1.heap.size mo n bo fo D Yo mc n w2.heap.size fc D Yo := by
  have sa : w2.Since w2.heap.size (w2.alloc (.cells #[.iface 49 (.map (some mc))] 30)) := (World.Since.refl _ _).alloc (Nat.le_refl _) _
  refine ⟨(s.trans (since_mono hc.since s.size)).trans (since_mono sa (Nat.le_trans s.size hc.since.size)), (o.of_since hc.since).of_since sa, hc.obj.of_since sa, (vo.of_block (hc.since.block _ vo.lt)).alloc _, box_row _ _, s.size, hmo, hfo, hbo, hc.m, fun z hz p hp => ?_, hc.since.size⟩
  cases hf : fo z with
  | none => rw [hc.gone z hz hf] at hp; cases hp
  | some q =>
    obtain ⟨b, hb, h1⟩ := hc.done z hz q hf
    rw [hb] at hp
    cases hp
    exact h1

theorem cell_blk2 {w : World} {b o : Nat} {v : Value} (h : w.cell? ⟨b, o, none⟩ = some v) : b < w.heap.size := World.block_lt_of_cell? _ _ h
theorem far_cell2 (w : World) (b o t x : Nat) (hn : b ≠ t) (hb : b < w.heap.size) (v : Value) (ob : Obj) : ((w.setCell ⟨t, x, none⟩ v).alloc ob).drew.cell? ⟨b, o, none⟩ = w.cell? ⟨b, o, none⟩ := by
  show ((w.setCell ⟨t, x, none⟩ v).alloc ob).cell? ⟨b, o, none⟩ = _
  rw [World.cell?_alloc_old _ _ _ (by simp; omega), World.cell?_setCell_other _ _ _ _ (fun e => hn (congrArg Addr.block e).symm)]
theorem order_one : (FloatKind.f64.format.order 4607182418800017408 4607182418800017408 == some .eq) = true := by kernel_rfl
theorem order_zero : (FloatKind.f64.format.order 0 0 == some .eq) = true := by kernel_rfl

theorem other_cell {w : World} {b o b' o' : Nat} {v : Value} (h : b ≠ b') : (w.setCell ⟨b', o', none⟩ v).cell? ⟨b, o, none⟩ = w.cell? ⟨b, o, none⟩ :=
  World.cell?_setCell_other _ _ _ _ (fun e => h (congrArg Addr.block e).symm)

set_option maxHeartbeats 4000000 in
set_option maxRecDepth 100000 in
theorem law2_walk (ga : Option Addr) (gb go G Gc : Nat) (K : Nat → ByteArray) (A : Nat → Option Addr) (L C RB RO : Nat → Nat) (X : Nat → Nat → Nat) (w : World) (hG : G ≤ maxLen) (hL : ∀ r, r < G → L r ≤ maxLen) (hK : ∀ r, r < G → (K r).size ≤ maxLen)
    (hI : InpE w ga gb go G K A L C RB RO X) :
    Calls Try.prog 3 #[.slice ga G Gc] w (Law2 w) := by
  have hB := bytesE_any ga gb go G Gc K A L C RB RO X w hG hL hK hI
  unfold maxLen at hG
  have HB : Hid (Calls Try.prog 5 #[.slice ga G Gc] w (AnswersE G K L w)) := hB
  clear hB hL hK
  go_enter Try.func3, Try.ntmps3
  go_wp2_with fail
  refine HB.out.mono ?_
  rintro e w' ⟨⟨b, rfl, hfit⟩, h⟩
  obtain rfl := h
  clear HB
  cases b with
  | false =>
    go_wp2_with fail
    go_ret
    exact ⟨rfl, World.Since.refl _ _⟩
  | true =>
  have hF := hfit rfl
  clear hfit
  by_cases h1 : (1024 : Int) < (G : Int)
  · go_wp2_with fail
    go_ret
    exact ⟨rfl, World.Since.refl _ _⟩
  · go_wp2_with fail
    go_loopg [3, 4] G (fun g n i wr => w'.Since w'.heap.size wr ∧ ∃ (r : Nat) (z : Int), r ≤ G ∧ g = G - r ∧ i = .int .i64 r ∧ n = .int .i64 z ∧ 0 ≤ z ∧ z ≤ 1048576)
    case atStart => exact ⟨World.Since.refl _ _, 0, 0, Nat.zero_le _, rfl, rfl, rfl, by omega, by omega⟩
    case round =>
      obtain ⟨hS, r, z, hr, rfl, rfl, rfl, hz0, hz1⟩ := hrel
      by_cases hrG : r < G
      · obtain rfl := hI.ga (by omega)
        have hrz : (r : Int) < (G : Int) := by omega
        have hLr := hF.l r hrG
        have hKr := hF.k r hrG
        have g0 := (hI.since hS).key r hrG
        have g1 := (hI.since hS).nums r hrG
        have h2 : ¬ (1048576 : Int) < ((K r).size : Int) := by omega
        have h2' : decide ((1048576 : Int) < ((K r).size : Int)) = false := by simpa using h2
        by_cases h3 : (131072 : Int) < (L r : Int)
        · go_wp2_with fail
          go_ret
          exact ⟨rfl, hS⟩
        · go_wp2_with fail
          go_quiet (fail)
          by_cases h4 : (1048576 : Int) < z + (40 + ((K r).size : Int) + 8 * (L r : Int))
          · go_wp2_with fail
            go_ret
            exact ⟨rfl, since_drewN' hS _⟩
          · go_wp2_with fail
            go_roundg (G - (r + 1))
            case measure => go_light; omega
            case rel => go_light; exact ⟨since_drewN' hS _, r + 1, _, by omega, rfl, by go_num, rfl, by omega, by omega⟩
      · have hrz : ¬ (r : Int) < (G : Int) := by omega
        clear hz0 hz1
        have hg := hF.g
        have hmk1 := run_make_row' (P := Try.prog) 27 9 (.string ByteArray.empty) 16 Try.underlying27 Try.info9' rfl .i64 .i64 G (by omega) (by omega)
        have hmk2 := run_make_row' (P := Try.prog) 28 24 (.slice none 0 0) 24 Try.underlying28 Try.info24 rfl .i64 .i64 G (by omega) (by omega)
        go_wp2_with fail
        clear hmk1 hmk2
        have hGa := gather_start hS G K A L C
        generalize wr.heap.size = kb at *
        go_loopg [7, 8] G (fun g fr i wr => ∃ (r : Nat) (f : ByteArray), r ≤ G ∧ g = G - r ∧ i = .int .i64 r ∧ fr = .string f ∧ Gather w' wr G K A L C kb (kb + 1) r f)
        case atStart => go_light; exact ⟨0, _, Nat.zero_le _, rfl, rfl, rfl, hGa⟩
        case round =>
          clear hGa hS hrz hrG hr
          obtain ⟨i, fr, hi, rfl, rfl, rfl, hGa⟩ := hrel
          by_cases hiG : i < G
          · obtain rfl := hI.ga (by omega)
            have hiz : (i : Int) < (G : Int) := by omega
            have hLi := hF.l i hiG
            have hKi := hF.k i hiG
            have g0 := (hI.since hGa.since).key i hiG
            have g1 := (hI.since hGa.since).nums i hiG
            have k1 := hGa.keys.cell hiG
            have k2 := hGa.keys.frozen i
            have k3 := hGa.lists.cell hiG
            have k4 := hGa.lists.frozen i
            simp only [Nat.lt_irrefl, if_false] at k1 k3
            have bg : gb < w'.heap.size := World.block_lt_of_cell? _ _ (hI.key i hiG)
            have n1 : gb ≠ kb := by have := hGa.hk; omega
            have n2 : gb ≠ kb + 1 := by have := hGa.hk; omega
            have e1 : ∀ v, (wr.setCell ⟨kb, i, none⟩ v).cell? ⟨gb, go + i * 2 + 1, none⟩ = some (.slice (A i) (L i) (C i)) := fun v => by rw [other_cell n1]; exact g1
            have e2 : ∀ v, (wr.setCell ⟨kb, i, none⟩ v).cell? ⟨kb + 1, i, none⟩ = some (.slice none 0 0) := fun v => by rw [other_cell (by omega)]; exact k3
            have e3 : ∀ v v', ((wr.setCell ⟨kb, i, none⟩ v).setCell ⟨kb + 1, i, none⟩ v').cell? ⟨gb, go + i * 2, none⟩ = some (.string (K i)) := fun v v' => by rw [other_cell n2, other_cell n1]; exact g0
            have hcat := cat_bang (K i) hKi
            have hfs := hGa.small
            by_cases hlong : (fr.size : Int) < ((K i).size : Int) + 1
            · go_wp2_with fail
              go_roundg (G - (i + 1))
              case measure => go_light; omega
              case rel =>
                go_light
                exact ⟨i + 1, _, by omega, rfl, by go_num, rfl, gather_step hGa (by rw [size_bang]; omega) (by rw [size_bang]; omega) (by rw [size_bang]; omega)⟩
            · go_wp2_with fail
              go_roundg (G - (i + 1))
              case measure => go_light; omega
              case rel =>
                go_light
                exact ⟨i + 1, _, by omega, rfl, by go_num, rfl, gather_step hGa (Nat.le_refl _) (by omega) hfs⟩
          · obtain rfl : i = G := by omega
            clear hiG hi
            have hk0 := hGa.keys.congr (g := fun j => .string (K j)) (fun j hj => by rw [if_pos hj])
            have hl0 := hGa.lists.congr (g := fun j => .slice (A j) (L j) (C j)) (fun j hj => by rw [if_pos hj])
            have HL : Hid (∀ j, j < i → (K j).size < fr.size) := hGa.long
            have hfs := hGa.small
            have hS := hGa.since
            clear hGa
            go_wp2_with fail
            refine (mk_obj kb (kb + 1) i K A L C RB RO X wr hF hk0 hl0 (hI.since hS).num).mono ?_
            rintro e w1 ⟨rfl, s1, o1⟩
            have fo0 := last_place K L X i (wr.heap.size + 2)
            have nf : place K L (wr.heap.size + 2) i fr = none := place_none HL.out
            have s2 := hS.trans (since_mono s1 hS.size)
            generalize place K L (wr.heap.size + 2) i = fo at *
            generalize lastY K X i = Yo at *
            have hfo0 : ∀ s, s.size ≤ maxLen → ∀ p, fo s = some p → p.1 < w1.heap.size := fun s hs p hp => (o1.row s hs p hp).1.lt
            have hmo0 : wr.heap.size + 1 < w1.heap.size := o1.map.lt
            generalize wr.heap.size + 1 = mo at *
            clear hk0 hl0 hS s1
            go_wp2_with fail
            have s3 := s2.alloc s2.size (.cells #[.iface 49 (.map (some mo))] 30)
            have o2 := o1.of_since ((World.Since.refl w1.heap.size w1).alloc (Nat.le_refl _) (.cells #[.iface 49 (.map (some mo))] 30))
            have vo := box_row w1 (.iface 49 (.map (some mo)))
            have zW : w1.heap.size < (w1.alloc (.cells #[.iface 49 (.map (some mo))] 30)).heap.size := by rw [show (w1.alloc (.cells #[.iface 49 (.map (some mo))] 30)).heap.size = w1.heap.size + 1 by simp]; omega
            generalize w1.alloc (.cells #[.iface 49 (.map (some mo))] 30) = W1 at *
            generalize w1.heap.size = bo at *
            clear o1 s2 w1
            refine (zcopy_obj mo i fo (dist K i) Yo W1 hg o2).mono ?_
            rintro e w2 ⟨rfl, fc, hc⟩
            have hmc := hc.obj.map.lt
            have hbB : w'.heap.size ≤ W1.heap.size := s3.size
            go_wp2_with fail
            have hT : Two w' (w2.alloc (.cells #[.iface 49 (.map (some (W1.heap.size + 2)))] 30)) W1.heap.size mo i bo fo (dist K i) Yo (W1.heap.size + 2) i w2.heap.size fc (dist K i) Yo :=
              two_start s3 o2 vo hc (by omega) (fun s hs p hp => by have := hfo0 s hs p hp; omega) (by omega)
            have fc0 : LastAt i K L X fc Yo := fc_last fo0 hc hF
            have nfc : fc fr = none := hc.gone fr (by unfold maxLen; omega) nf
            generalize w2.alloc (.cells #[.iface 49 (.map (some (W1.heap.size + 2)))] 30) = W2 at *
            generalize W1.heap.size = B at *
            generalize w2.heap.size = bc at *
            generalize B + 2 = mc at *
            clear hc hmc o2 vo s3 zW hfo0 hmo0 hbB w2 W1 nf
            go_loopg [11, 12, 13] i (fun g d ok n wr => ∃ j : Nat, j ≤ i ∧ g = i - j ∧ n = .int .i64 j ∧ d = .int .i64 (cntTo (isLast K i) j : Nat) ∧ ok = .bool true ∧ Two w' wr B mo i bo fo (dist K i) Yo mc i bc fc (dist K i) Yo)
            case atStart => go_light; exact ⟨0, Nat.zero_le _, rfl, rfl, rfl, rfl, hT⟩
            case round =>
              clear hT W2
              obtain ⟨j, hj, rfl, rfl, rfl, rfl, hT⟩ := hrel
              have hcj : cntTo (isLast K i) j ≤ 1048576 := by have := cntTo_le (isLast K i) j; omega
              by_cases hji : j < i
              · obtain rfl := hI.ga (by omega)
                have hjz : (j : Int) < (i : Int) := by omega
                go_wp2_with fail
                refine (last_of _ gb go i Gc K A L C RB RO X j wr hg hji (hI.since hT.since)).mono ?_
                rintro e w4 ⟨rfl, s4⟩
                have hT4 := hT.step s4
                clear hT s4
                cases hl : isLast K i j with
                | false =>
                  go_wp2_with fail
                  go_roundg (i - (j + 1))
                  case measure => go_light; omega
                  case rel => go_light; exact ⟨j + 1, by omega, rfl, by go_num, by rw [show cntTo (isLast K i) (j + 1) = cntTo (isLast K i) j by simp [cntTo, hl]], rfl, hT4⟩
                | true =>
                  have HC : Hid (cntTo (isLast K i) (j + 1) = cntTo (isLast K i) j + 1) := by show cntTo (isLast K i) (j + 1) = _; simp [cntTo, hl]
                  obtain ⟨b, hb⟩ := (fc0.there j hji hl)
                  have HY : Hid (Yo (K j) = X j) := fc0.y j hji hl
                  have k0 : w4.cell? ⟨bc, 0, none⟩ = some (.iface 49 (.map (some mc))) := hT4.vc.cell (by omega)
                  have g0 := (hI.since hT4.since).key j hji
                  have g1 := (hI.since hT4.since).nums j hji
                  have hKj : (K j).size ≤ maxLen := by have := hF.k j hji; unfold maxLen; omega
                  have HB : Hid (fc (K j) = some (b, L j)) := hb
                  have hO4 : Hid (Obj1 w4.drew mc i fc (dist K i) Yo) := hT4.cp.of_since (World.Since.drew (World.Since.refl _ _))
                  clear hb
                  go_wp2_with fail
                  go_region_held3 (fun w' => w'.cell? ⟨bc, 0, none⟩ = some (.iface 49 (.map (some mc))) ∧ w'.cell? ⟨gb, go + j * 2, none⟩ = some (.string (K j))) (first | go_keep | exact ⟨cell_keep hN.since k0, cell_keep hN.since g0⟩) (first | (go_at_call 9; refine (numbers_at mc i fc _ Yo (K j) b (L j) _ hO4.out hKj HB.out).mono ?_; rintro e w5 ⟨rfl, hN⟩))
                  have s5 : w4.Since w4.heap.size w5 := (World.Since.drew (World.Since.refl _ _)).trans hN.since
                  have hT5 := hT4.step s5
                  have R5 : Hid (w5.rowIs (w4.heap.size + 1) 40 (L j) (fun c => .float .f64 (X j c))) := hN.row.congr (fun c hc => by rw [if_pos hc, HY.out])
                  have g2 := (hI.since hT5.since).nums j hji
                  clear hT4 hO4 hN s5 k0 g0 g1
                  generalize w4.heap.size + 1 = ab at *
                  go_wp2_with fail
                  refine (same_nums ab (L j) (L j) (A j) (RB j) (RO j) (C j) (X j) w5 (hF.l j hji) (fun c hc => R5.out.cell hc) ((hI.since hT5.since).num j hji)).mono ?_
                  rintro e w6 ⟨rfl, s6⟩
                  have hT6 := hT5.step s6
                  clear hT5 s6 R5 g2
                  go_wp2_with fail
                  go_roundg (i - (j + 1))
                  case measure => go_light; omega
                  case rel => go_light; exact ⟨j + 1, by omega, rfl, by go_num, by rw [HC.out]; go_num, rfl, hT6⟩
              · have hjz : ¬ (j : Int) < (i : Int) := by omega
                have ej : j = i := by omega
                subst ej
                rw [cntLast]
                clear hcj
                have hdj : dist K j ≤ 1048576 := by rw [← cntLast]; have := cntTo_le (isLast K j) j; omega
                have k0 : wr.cell? ⟨bc, 0, none⟩ = some (.iface 49 (.map (some mc))) := hT.vc.cell (by omega)
                go_wp2_with fail
                refine (obj_len mc j fc (dist K j) Yo wr hT.cp).mono ?_
                rintro e w4 ⟨rfl, e4⟩
                have s4 : wr.Since wr.heap.size w4 := by rw [e4]; exact (World.Since.refl _ _).alloc (Nat.le_refl _) _
                have hT4 := hT.step s4
                clear hT s4 e4 k0
                have k0 : w4.cell? ⟨bc, 0, none⟩ = some (.iface 49 (.map (some mc))) := hT4.vc.cell (by omega)
                go_wp2_with fail
                refine (put_empty mc j fc (dist K j) Yo fr w4 hg hT4.cp (by unfold maxLen; omega) nfc).mono ?_
                rintro e w5 ⟨rfl, o5, s5⟩
                have hT5 := hT4.put o5 s5 (by have := hT4.hmc; have := hT4.cp.map.lt; omega)
                have fc5 : LastAt j K L X (upd fc fr (w4.heap.size + 1, 0)) Yo := fc0.upd HL.out
                clear o5 s5 hT4 k0
                generalize upd fc fr (w4.heap.size + 1, 0) = fc' at *
                go_wp2_with fail
                go_loopg [12, 18] j (fun g ok n wr => ∃ (i : Nat) (Yc : ByteArray → Nat → Nat), i ≤ j ∧ g = j - i ∧ n = .int .i64 i ∧ ok = .bool true ∧ Two w' wr B mo j bo fo (dist K j) Yo mc (j + 1) bc fc' (dist K j + 1) Yc)
                case atStart => go_light; exact ⟨0, Yo, Nat.zero_le _, rfl, rfl, rfl, hT5⟩
                case round =>
                  clear hT5 w5 w4
                  obtain ⟨i, Yc, hi, rfl, rfl, rfl, hT⟩ := hrel
                  by_cases hij : i < j
                  · obtain rfl := hI.ga (by omega)
                    have hiz : (i : Int) < (j : Int) := by omega
                    go_wp2_with fail
                    refine (last_of _ gb go j Gc K A L C RB RO X i wr hg hij (hI.since hT.since)).mono ?_
                    rintro e w4 ⟨rfl, s4⟩
                    have hT4 := hT.step s4
                    clear hT s4
                    have g1 := (hI.since hT4.since).nums i hij
                    cases hl : isLast K j i with
                    | false =>
                      go_wp2_with fail
                      go_roundg (j - (i + 1))
                      case measure => go_light; omega
                      case rel => go_light; exact ⟨i + 1, Yc, by omega, rfl, by go_num, rfl, hT4⟩
                    | true =>
                      by_cases hL0 : L i = 0
                      · have hL0' : ((L i : Int) == 0) = true := by simp [hL0]
                        clear hL0
                        go_wp2_with fail
                        go_roundg (j - (i + 1))
                        case measure => go_light; omega
                        case rel => go_light; exact ⟨i + 1, Yc, by omega, rfl, by go_num, rfl, hT4⟩
                      · have hL0' : ((L i : Int) == 0) = false := by simp; omega
                        have hLp : 0 < L i := by omega
                        have hLz : (0 : Int) < (L i : Int) := by omega
                        have g2 := ((hI.since hT4.since).num i hij 0 hLp).2
                        rw [((hI.since hT4.since).num i hij 0 hLp).1] at g1
                        simp only [Nat.add_zero] at g2
                        obtain ⟨b, hb⟩ := fc5.there i hij hl
                        have HB : Hid (fc' (K i) = some (b, L i)) := hb
                        clear hb
                        have k0 : w4.cell? ⟨bc, 0, none⟩ = some (.iface 49 (.map (some mc))) := hT4.vc.cell (by omega)
                        have g0 := (hI.since hT4.since).key i hij
                        have hKi : (K i).size ≤ maxLen := by have := hF.k i hij; unfold maxLen; omega
                        have hO4 : Hid (Obj1 w4.drew mc (j + 1) fc' (dist K j + 1) Yc) := hT4.cp.of_since (World.Since.drew (World.Since.refl _ _))
                        have hrow := (hT4.cp.row (K i) hKi (b, L i) HB.out).1
                        have n1 : bc ≠ b := row_ne_row hT4.vc hrow (by decide)
                        have m1 : bc < w4.heap.size := hT4.vc.lt
                        have m2 : gb < w4.heap.size := by have := cell_blk2 (hI.key i hij); have := hT4.since.size; omega
                        have n2 : gb ≠ b := by have := cell_blk2 (hI.key i hij); have := hT4.hB; have := hT4.hfc (K i) hKi (b, L i) HB.out; simp only at this; omega
                        clear hrow
                        have f1 := far_cell2 w4 bc 0 b 0 n1 m1
                        have f2 := far_cell2 w4 gb (go + i * 2) b 0 n2 m2
                        cases hz : (FloatKind.f64.format.order (X i 0) 0 == some .eq) with
                        | true =>
                          go_wp2_with fail
                          go_region_held3 (fun w' => w'.cell? ⟨bc, 0, none⟩ = some (.iface 49 (.map (some mc))) ∧ w'.cell? ⟨gb, go + i * 2, none⟩ = some (.string (K i))) (go_keep) (first | (go_at_call 13; refine (set_number mc (j + 1) fc' _ Yc (K i) b (L i) _ _ hO4.out hKi HB.out hLp).mono ?_; rintro e w5 ⟨rfl, rfl⟩))
                          obtain ⟨Yc', hT5, hY5⟩ := hT4.setNum (x := 4607182418800017408) hKi HB.out (.cells #[.iface 49 (.map (some mc))] 30)
                          clear hT4 hO4 f1 f2 k0 g0 g1 g2 n1 n2 m1 m2
                          have HY5 : Hid (Yc' (K i) 0 = 4607182418800017408) := hY5
                          clear hY5
                          generalize (((w4.setCell ⟨b, 0, none⟩ (fval 4607182418800017408)).alloc (.cells #[.iface 49 (.map (some mc))] 30)).drew) = W5 at *
                          have k0 : W5.cell? ⟨bc, 0, none⟩ = some (.iface 49 (.map (some mc))) := hT5.vc.cell (by omega)
                          have g0 := (hI.since hT5.since).key i hij
                          have hO5 : Hid (Obj1 W5.drew mc (j + 1) fc' (dist K j + 1) Yc') := hT5.cp.of_since (World.Since.drew (World.Since.refl _ _))
                          go_wp2_with fail
                          go_region_held3 (fun w' => w'.cell? ⟨bc, 0, none⟩ = some (.iface 49 (.map (some mc))) ∧ w'.cell? ⟨gb, go + i * 2, none⟩ = some (.string (K i))) (first | go_keep | exact ⟨cell_keep hN.since k0, cell_keep hN.since g0⟩) (first | (go_at_call 9; refine (numbers_at mc (j + 1) fc' _ Yc' (K i) b (L i) _ hO5.out hKi HB.out).mono ?_; rintro e w6 ⟨rfl, hN⟩))
                          have s6 : W5.Since W5.heap.size w6 := (World.Since.drew (World.Since.refl _ _)).trans hN.since
                          have hT6 := hT5.step s6
                          have k1 : w6.cell? ⟨W5.heap.size + 1, 0, none⟩ = some (.float .f64 4607182418800017408) := by
                            have := hN.row.cell hLp
                            simp only [if_pos hLp] at this
                            rw [HY5.out] at this
                            exact this
                          clear hT5 hO5 hN s6 k0 g0
                          generalize W5.heap.size + 1 = ab at *
                          have hoo := order_one
                          go_wp2_with fail
                          go_roundg (j - (i + 1))
                          case measure => go_light; omega
                          case rel => go_light; exact ⟨i + 1, Yc', by omega, rfl, by go_num, rfl, hT6⟩
                        | false =>
                          go_wp2_with fail
                          go_region_held3 (fun w' => w'.cell? ⟨bc, 0, none⟩ = some (.iface 49 (.map (some mc))) ∧ w'.cell? ⟨gb, go + i * 2, none⟩ = some (.string (K i))) (go_keep) (first | (go_at_call 13; refine (set_number mc (j + 1) fc' _ Yc (K i) b (L i) _ _ hO4.out hKi HB.out hLp).mono ?_; rintro e w5 ⟨rfl, rfl⟩))
                          obtain ⟨Yc', hT5, hY5⟩ := hT4.setNum (x := 0) hKi HB.out (.cells #[.iface 49 (.map (some mc))] 30)
                          clear hT4 hO4 f1 f2 k0 g0 g1 g2 n1 n2 m1 m2
                          have HY5 : Hid (Yc' (K i) 0 = 0) := hY5
                          clear hY5
                          generalize (((w4.setCell ⟨b, 0, none⟩ (fval 0)).alloc (.cells #[.iface 49 (.map (some mc))] 30)).drew) = W5 at *
                          have k0 : W5.cell? ⟨bc, 0, none⟩ = some (.iface 49 (.map (some mc))) := hT5.vc.cell (by omega)
                          have g0 := (hI.since hT5.since).key i hij
                          have hO5 : Hid (Obj1 W5.drew mc (j + 1) fc' (dist K j + 1) Yc') := hT5.cp.of_since (World.Since.drew (World.Since.refl _ _))
                          go_wp2_with fail
                          go_region_held3 (fun w' => w'.cell? ⟨bc, 0, none⟩ = some (.iface 49 (.map (some mc))) ∧ w'.cell? ⟨gb, go + i * 2, none⟩ = some (.string (K i))) (first | go_keep | exact ⟨cell_keep hN.since k0, cell_keep hN.since g0⟩) (first | (go_at_call 9; refine (numbers_at mc (j + 1) fc' _ Yc' (K i) b (L i) _ hO5.out hKi HB.out).mono ?_; rintro e w6 ⟨rfl, hN⟩))
                          have s6 : W5.Since W5.heap.size w6 := (World.Since.drew (World.Since.refl _ _)).trans hN.since
                          have hT6 := hT5.step s6
                          have k1 : w6.cell? ⟨W5.heap.size + 1, 0, none⟩ = some (.float .f64 0) := by
                            have := hN.row.cell hLp
                            simp only [if_pos hLp] at this
                            rw [HY5.out] at this
                            exact this
                          clear hT5 hO5 hN s6 k0 g0
                          generalize W5.heap.size + 1 = ab at *
                          have hoo := order_zero
                          go_wp2_with fail
                          go_roundg (j - (i + 1))
                          case measure => go_light; omega
                          case rel => go_light; exact ⟨i + 1, Yc', by omega, rfl, by go_num, rfl, hT6⟩
                  · have hiz : ¬ (i : Int) < (j : Int) := by omega
                    have k0 : wr.cell? ⟨bc, 0, none⟩ = some (.iface 49 (.map (some mc))) := hT.vc.cell (by omega)
                    go_wp2_with fail
                    refine (obj_len mc (j + 1) fc' (dist K j + 1) Yc wr hT.cp).mono ?_
                    rintro e w4 ⟨rfl, e4⟩
                    have s4 : wr.Since wr.heap.size w4 := by rw [e4]; exact (World.Since.refl _ _).alloc (Nat.le_refl _) _
                    have hT4 := hT.step s4
                    clear hT s4 e4 k0
                    have k0 : w4.cell? ⟨bo, 0, none⟩ = some (.iface 49 (.map (some mo))) := hT4.vo.cell (by omega)
                    go_wp2_with fail
                    refine (obj_len mo j fo (dist K j) Yo w4 hT4.orig).mono ?_
                    rintro e w5 ⟨rfl, e5⟩
                    have s5 : w4.Since w4.heap.size w5 := by rw [e5]; exact (World.Since.refl _ _).alloc (Nat.le_refl _) _
                    have hT5 := hT4.step s5
                    clear hT4 s5 e5 k0
                    go_wp2_with fail
                    go_loopg [12, 26] j (fun g ok n wr => ∃ (i : Nat), i ≤ j ∧ g = j - i ∧ n = .int .i64 i ∧ ok = .bool true ∧ Two w' wr B mo j bo fo (dist K j) Yo mc (j + 1) bc fc' (dist K j + 1) Yc)
                    case atStart => go_light; exact ⟨0, Nat.zero_le _, rfl, rfl, rfl, hT5⟩
                    case round =>
                      clear hT5 w5 w4
                      obtain ⟨q, hq, rfl, rfl, rfl, hT⟩ := hrel
                      by_cases hqj : q < j
                      · obtain rfl := hI.ga (by omega)
                        have hqz : (q : Int) < (j : Int) := by omega
                        go_wp2_with fail
                        refine (last_of _ gb go j Gc K A L C RB RO X q wr hg hqj (hI.since hT.since)).mono ?_
                        rintro e w4 ⟨rfl, s4⟩
                        have hT4 := hT.step s4
                        clear hT s4
                        cases hl : isLast K j q with
                        | false =>
                          go_wp2_with fail
                          go_roundg (j - (q + 1))
                          case measure => go_light; omega
                          case rel => go_light; exact ⟨q + 1, by omega, rfl, by go_num, rfl, hT4⟩
                        | true =>
                          obtain ⟨b, hb⟩ := (fo0.there q hqj hl)
                          have HY : Hid (Yo (K q) = X q) := fo0.y q hqj hl
                          have k0 : w4.cell? ⟨bo, 0, none⟩ = some (.iface 49 (.map (some mo))) := hT4.vo.cell (by omega)
                          have g0 := (hI.since hT4.since).key q hqj
                          have hKj : (K q).size ≤ maxLen := by have := hF.k q hqj; unfold maxLen; omega
                          have HB : Hid (fo (K q) = some (b, L q)) := hb
                          have hO4 : Hid (Obj1 w4.drew mo j fo (dist K j) Yo) := hT4.orig.of_since (World.Since.drew (World.Since.refl _ _))
                          clear hb
                          go_wp2_with fail
                          go_region_held3 (fun w' => w'.cell? ⟨bo, 0, none⟩ = some (.iface 49 (.map (some mo))) ∧ w'.cell? ⟨gb, go + q * 2, none⟩ = some (.string (K q))) (first | go_keep | exact ⟨cell_keep hN.since k0, cell_keep hN.since g0⟩) (first | (go_at_call 9; refine (numbers_at mo j fo _ Yo (K q) b (L q) _ hO4.out hKj HB.out).mono ?_; rintro e w5 ⟨rfl, hN⟩))
                          have s5 : w4.Since w4.heap.size w5 := (World.Since.drew (World.Since.refl _ _)).trans hN.since
                          have hT5 := hT4.step s5
                          have R5 : Hid (w5.rowIs (w4.heap.size + 1) 40 (L q) (fun c => .float .f64 (X q c))) := hN.row.congr (fun c hc => by rw [if_pos hc, HY.out])
                          have g2 := (hI.since hT5.since).nums q hqj
                          clear hT4 hO4 hN s5 k0 g0
                          generalize w4.heap.size + 1 = ab at *
                          go_wp2_with fail
                          refine (same_nums ab (L q) (L q) (A q) (RB q) (RO q) (C q) (X q) w5 (hF.l q hqj) (fun c hc => R5.out.cell hc) ((hI.since hT5.since).num q hqj)).mono ?_
                          rintro e w6 ⟨rfl, s6⟩
                          have hT6 := hT5.step s6
                          clear hT5 s6 R5 g2
                          go_wp2_with fail
                          go_roundg (j - (q + 1))
                          case measure => go_light; omega
                          case rel => go_light; exact ⟨q + 1, by omega, rfl, by go_num, rfl, hT6⟩
                      · have hqz : ¬ (q : Int) < (j : Int) := by omega
                        have hS := hT.since
                        clear hT
                        go_wp2_with fail
                        go_ret
                        exact ⟨rfl, hS⟩

end Go.Proofs.Qxb6618627a
