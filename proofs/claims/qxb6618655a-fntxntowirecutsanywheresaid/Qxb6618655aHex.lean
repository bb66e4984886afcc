/-
  leeway: encoding/hex (40, 41, 37) AND zzHex (32): one and the same text.
-/
import Derived.Test.Qxb6618655aKnown
import Derived.Lib.HexFns
namespace Go.Proofs.Qxb6618655a
open Go.RowKit Go.Lib
set_option linter.unusedVariables false

/-- The lower-case hex of s. -/
def hexS (s : ByteArray) : ByteArray := ⟨(Hx.encode s.data.toList).toArray⟩
def numsOf (s : ByteArray) : List Int := s.data.toList.map fun b => (b.toNat : Int)

theorem bytesOf_numsOf (s : ByteArray) : Lib.bytesOf (numsOf s) = s.data.toList := by
  unfold Lib.bytesOf numsOf
  rw [List.map_map]
  refine Eq.trans ?_ (List.map_id s.data.toList)
  apply List.map_congr_left
  intro b _
  simp
theorem numsOf_len (s : ByteArray) : (numsOf s).length = s.size := by unfold numsOf; rw [List.length_map, Array.length_toList]; rfl
theorem numsOf_getD (s : ByteArray) (i : Nat) (h : i < s.size) : (numsOf s).getD i 0 = ((s[i]'h).toNat : Int) := by
  unfold numsOf
  rw [List.getD_eq_getElem?_getD, List.getElem?_map]
  have : s.data.toList[i]? = some s[i] := by
    rw [List.getElem?_eq_getElem (by rw [Array.length_toList]; exact h)]
    rfl
  rw [this]; rfl
theorem numsOf_bd (s : ByteArray) (i : Nat) (h : i < s.size) : 0 ≤ (numsOf s).getD i 0 ∧ (numsOf s).getD i 0 < 256 := by
  rw [numsOf_getD s i h]
  have := (s[i]'h).toNat_lt
  omega

theorem Try.info5 : (Try.prog.info? 5).map (fun i => (i.zero, i.size, i.bytes)) = some (some (.int .u8 0), 1, 1) := by kernel_rfl

set_option maxHeartbeats 2000000 in
set_option maxRecDepth 100000 in
theorem hex_Encode (bd N : Nat) (f : Nat → Value) (bs os n cs : Nat) (xs : List Int) (w : World)
    (hx : xs.length = n) (hr : ∀ i, i < n → 0 ≤ xs.getD i 0 ∧ xs.getD i 0 < 256) (hsrc : ∀ i, i < n → w.cell? ⟨bs, os + i, none⟩ = some (.int .u8 (xs.getD i 0)))
    (hrow : w.rowIs bd 5 N f) (hlen : 2 * n ≤ N) (hne : bd ≠ bs) (hbig : n ≤ 1048576) :
    Calls Try.prog 41 #[.slice (some ⟨bd, 0, none⟩) N N, .slice (some ⟨bs, os, none⟩) n cs] w fun e w' => e = .returned (.int .i64 ((n : Int) * 2)) ∧ w'.rowIs bd 5 N (Hx.row f 0 (Lib.bytesOf xs) n) ∧ w.grownBy w' (some bd) := by
  have HS : Hid (∀ i, i < n → w.cell? ⟨bs, os + i, none⟩ = some (.int .u8 (xs.getD i 0))) := hsrc
  have HR : Hid (∀ i, i < n → 0 ≤ xs.getD i 0 ∧ xs.getD i 0 < 256) := hr
  have HX0 : Hid (xs.length = n) := hx
  clear hsrc hr hx
  go_enter Try.func41, Try.ntmps41
  go_wp2_with fail
  go_loopg [5, 10] n (fun g vj vi wr => ∃ k : Nat, k ≤ n ∧ g = n - k ∧ vi = .int .i64 k ∧ vj = .int .i64 ((2 * k : Nat) : Int) ∧ Hid (wr.rowIs bd 5 N (Hx.row f 0 (Lib.bytesOf xs) k)) ∧ Hid (w.grownBy wr (some bd)))
  case atStart => exact ⟨0, Nat.zero_le _, rfl, rfl, rfl, hrow.congr (fun j _ => Hx.row_zero f 0 _ j), Hx.grownBy_refl _ _⟩
  case round =>
    obtain ⟨k, hk, rfl, rfl, rfl, hrw, hgr⟩ := hrel
    by_cases hkn : k < n
    · have hkz : (k : Int) < (n : Int) := by omega
      obtain ⟨x, hxk⟩ : ∃ x, x = xs.getD k 0 := ⟨_, rfl⟩
      have hcx : wr.cell? ⟨bs, os + k, none⟩ = some (.int .u8 x) := by
        have := HS.out k hkn
        rw [hxk, World.cell?_of_block (w := w) (hgr.out.block bs (cell_blk this) (fun e => hne (by cases e; rfl)))]
        exact this
      have hx0 : 0 ≤ x := by rw [hxk]; exact (HR.out k hkn).1
      have hx1 : x < 256 := by rw [hxk]; exact (HR.out k hkn).2
      have HX : Hid (x = xs.getD k 0) := hxk
      clear hxk
      have hf1 : wr.frozen? ⟨bd, 2 * k, none⟩ = false := hrw.out.frozen _
      have hc1 : wr.cell? ⟨bd, 2 * k, none⟩ = some (Hx.row f 0 (Lib.bytesOf xs) k (2 * k)) := hrw.out.cell (by omega)
      have hf2 : ∀ v, (wr.setCell ⟨bd, 2 * k, none⟩ v).frozen? ⟨bd, 2 * k + 1, none⟩ = false := fun v => (hrw.out.set _ v).frozen _
      have hc2 : ∀ v, (wr.setCell ⟨bd, 2 * k, none⟩ v).cell? ⟨bd, 2 * k + 1, none⟩ = some (Hx.row f 0 (Lib.bytesOf xs) k (2 * k + 1)) := fun v => by
        have := (hrw.out.set (2 * k) v).cell (i := 2 * k + 1) (by omega)
        rwa [if_neg (by omega)] at this
      go_wp2_with fail
      go_roundg (n - (k + 1))
      case measure => go_light; omega
      case rel =>
        go_light
        refine ⟨k + 1, by omega, rfl, by go_num, by first | go_num | (congr 1; omega), ((hrw.out.set _ _).set _ _).congr (fun j _ => ?_), Hx.grownBy_set (Hx.grownBy_set hgr.out _ rfl _) _ rfl _⟩
        have e1 := Hx.dig_hi x hx0 hx1 (by show _ < 16; omega)
        have e2 := Hx.dig_lo x hx0 hx1 (by show _ < 16; omega)
        have e3 := Hx.row_step f 0 (Lib.bytesOf xs) k _ (Hx.bytes_at xs k (by rw [HX0.out]; exact hkn)) j
        rw [← HX.out, ← e1, ← e2] at e3
        simp only [Nat.zero_add] at e3
        exact e3
    · have hkz : ¬ (k : Int) < (n : Int) := by omega
      have hk2 : k = n := by omega
      subst hk2
      go_wp2_with fail
      go_ret
      exact ⟨rfl, hrw.out, hgr.out⟩

set_option maxHeartbeats 400000 in
theorem hex_EncodedLen (n : Nat) (w : World) (h : n ≤ 1048576) : Calls Try.prog 40 #[.int .i64 (n : Int)] w fun e w' => e = .returned (.int .i64 ((n : Int) * 2)) ∧ w' = w := by
  go_enter Try.func40, Try.ntmps40
  go_wp2_with fail
  go_ret
  exact ⟨rfl, rfl⟩

set_option maxHeartbeats 2000000 in
set_option maxRecDepth 100000 in
theorem hex_EncodeToString (bs os cs : Nat) (s : ByteArray) (w : World) (hsrc : ∀ i, i < s.size → w.cell? ⟨bs, os + i, none⟩ = some (.int .u8 ((numsOf s).getD i 0))) (hb : bs < w.heap.size) (hbig : s.size ≤ 1048576) :
    Calls Try.prog 37 #[.slice (some ⟨bs, os, none⟩) s.size cs] w fun e w' => e = .returned (.string (hexS s)) ∧ w.Since w.heap.size w' := by
  have hmk : ∀ w : World, (Instr.makeSlice 59 (.int .i64 ((s.size : Int) * 2)) (.int .i64 ((s.size : Int) * 2))).run Try.prog w = .ok (.slice (some ⟨w.heap.size, 0, none⟩) (2 * s.size) (2 * s.size)) (w.alloc (.cells (madeCells #[.int .u8 0] (2 * s.size)) 5)) := fun w => by
    have h := run_make_row' (P := Try.prog) 59 5 (.int .u8 0) 1 Try.underlying59 Try.info5 rfl .i64 .i64 (2 * s.size) (by omega) (by omega) w
    rwa [show ((2 * s.size : Nat) : Int) = (s.size : Int) * 2 by omega] at h
  have hsrc' : Hid (∀ o, ∀ i, i < s.size → (w.alloc o).cell? ⟨bs, os + i, none⟩ = some (.int .u8 ((numsOf s).getD i 0))) := fun o i hi => cell_keep ((World.Since.refl _ w).alloc (Nat.le_refl _) o) (hsrc i hi)
  clear hsrc
  go_enter Try.func37, Try.ntmps37
  go_wp2_with fail
  refine (hex_EncodedLen s.size w hbig).mono ?_
  rintro e w1 ⟨rfl, h⟩
  obtain rfl := h
  go_wp2_with fail
  refine (hex_Encode w1.heap.size (2 * s.size) (fun _ => .int .u8 0) bs os s.size cs (numsOf s) _ (numsOf_len s) (numsOf_bd s) (hsrc'.out _) (World.rowIs_made w1 _ _ _) (by omega) (by omega) hbig).mono ?_
  rintro e w2 ⟨rfl, hrow', hgrow⟩
  have g := run_convert_bytes_arg (P := Try.prog) w2 59 5 Try.underlying59 Try.underlying5 w1.heap.size 0 (2 * s.size) (2 * s.size) (Hx.nums (Lib.bytesOf (numsOf s))) (by rw [Hx.nums_length, Lib.bytesOf_length, numsOf_len]) (fun i hi => by rw [Nat.zero_add, hrow'.cell hi, Hx.row_in _ _ _ _ hi]) 9 Try.underlying9
  have HG : Hid (w1.Since w1.heap.size w2) := ((World.Since.refl _ w1).alloc (Nat.le_refl _) _).grown hgrow (by simp) (fun k hk => by cases hk; exact Nat.le_refl _)
  clear hrow' hgrow hmk
  rw [Hx.strOfNums_nums, bytesOf_numsOf] at g
  go_wp2_with fail
  go_ret
  exact ⟨rfl, HG.out⟩

/-! ### zzHex -/
theorem dig_nat (d : Nat) (h : d < Hx.tab.size) : ((Hx.tab[d]'h).toNat : Int) = ((Hx.digit d).toNat : Int) := by
  unfold Hx.digit
  rw [Pa.at_eq Hx.tab _ h]
  rfl

set_option maxHeartbeats 2000000 in
set_option maxRecDepth 100000 in
theorem zz_hex (s : ByteArray) (w : World) (hbig : s.size ≤ 1048576) :
    Calls Try.prog 32 #[.string s] w fun e w' => e = .returned (.string (hexS s)) ∧ w.Since w.heap.size w' := by
  have hmk : ∀ w : World, (Instr.makeSlice 59 (.int .i64 (2 * (s.size : Int))) (.int .i64 (2 * (s.size : Int)))).run Try.prog w = .ok (.slice (some ⟨w.heap.size, 0, none⟩) (2 * s.size) (2 * s.size)) (w.alloc (.cells (madeCells #[.int .u8 0] (2 * s.size)) 5)) := fun w => by
    have h := run_make_row' (P := Try.prog) 59 5 (.int .u8 0) 1 Try.underlying59 Try.info5 rfl .i64 .i64 (2 * s.size) (by omega) (by omega) w
    rwa [show ((2 * s.size : Nat) : Int) = 2 * (s.size : Int) by omega] at h
  go_enter Try.func32, Try.ntmps32
  go_wp2_with fail
  clear hmk
  go_loopg [4] s.size (fun g vi wr => ∃ k : Nat, k ≤ s.size ∧ g = s.size - k ∧ vi = .int .i64 k ∧ Hid (wr.rowIs w.heap.size 5 (2 * s.size) (Hx.row (fun _ => .int .u8 0) 0 s.data.toList k)) ∧ Hid (w.Since w.heap.size wr))
  case atStart => exact ⟨0, Nat.zero_le _, rfl, rfl, (World.rowIs_made w _ _ _).congr (fun j _ => Hx.row_zero (fun _ => .int .u8 0) 0 _ j), (World.Since.refl _ w).alloc (Nat.le_refl _) _⟩
  case round =>
    obtain ⟨k, hk, rfl, rfl, hrw, hgr⟩ := hrel
    by_cases hkn : k < s.size
    · have hkz : (k : Int) < (s.size : Int) := by omega
      have hf1 : wr.frozen? ⟨w.heap.size, 2 * k, none⟩ = false := hrw.out.frozen _
      have hc1 : wr.cell? ⟨w.heap.size, 2 * k, none⟩ = some (Hx.row (fun _ => .int .u8 0) 0 s.data.toList k (2 * k)) := hrw.out.cell (by omega)
      have hf2 : ∀ v, (wr.setCell ⟨w.heap.size, 2 * k, none⟩ v).frozen? ⟨w.heap.size, 2 * k + 1, none⟩ = false := fun v => (hrw.out.set _ v).frozen _
      have hc2 : ∀ v, (wr.setCell ⟨w.heap.size, 2 * k, none⟩ v).cell? ⟨w.heap.size, 2 * k + 1, none⟩ = some (Hx.row (fun _ => .int .u8 0) 0 s.data.toList k (2 * k + 1)) := fun v => by
        have := (hrw.out.set (2 * k) v).cell (i := 2 * k + 1) (by omega)
        rwa [if_neg (by omega)] at this
      have hlt := (s[k]'hkn).toNat_lt
      go_wp2_with fail
      go_roundg (s.size - (k + 1))
      case measure => go_light; omega
      case rel =>
        go_light
        refine ⟨k + 1, by omega, rfl, by go_num, ((hrw.out.set _ _).set _ _).congr (fun j _ => ?_), ((hgr.out.setCell (Nat.le_refl _) _).setCell (Nat.le_refl _) _)⟩
        have hb : s.data.toList[k]? = some (s[k]'hkn) := by
          rw [List.getElem?_eq_getElem (by rw [Array.length_toList]; exact hkn)]
          rfl
        have e1 := dig_nat ((s[k]'hkn).toNat / 16) (by show _ < 16; omega)
        have e2 := dig_nat ((s[k]'hkn).toNat % 16) (by show _ < 16; omega)
        have e3 := Hx.row_step (fun _ => .int .u8 0) 0 s.data.toList k _ hb j
        rw [← e1, ← e2] at e3
        simp only [Nat.zero_add] at e3
        exact e3
    · have hkz : ¬ (k : Int) < (s.size : Int) := by omega
      have hk2 : k = s.size := by omega
      have g := run_convert_bytes_arg (P := Try.prog) wr 59 5 Try.underlying59 Try.underlying5 w.heap.size 0 (2 * s.size) (2 * s.size) (Hx.nums s.data.toList) (by rw [Hx.nums_length, Array.length_toList]; rfl) (fun i hi => by rw [Nat.zero_add, hrw.out.cell hi, hk2, Hx.row_in _ _ _ _ hi]) 9 Try.underlying9
      rw [Hx.strOfNums_nums] at g
      clear hk2
      go_wp2_with fail
      go_ret
      exact ⟨rfl, hgr.out⟩

end Go.Proofs.Qxb6618655a
