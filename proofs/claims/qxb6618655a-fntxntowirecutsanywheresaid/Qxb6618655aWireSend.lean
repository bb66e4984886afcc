/-
  leeway, the wire: txnToWire (29).
-/
import Derived.Test.Qxb6618655aWireTx
import Derived.Deep.DeepCutAuto
import Derived.Deep.CutRange
namespace Go.Proofs.Qxb6618655a
open Go.RowKit Go.Lib
set_option linter.unusedVariables false
set_option linter.unusedSimpArgs false

theorem keep2 {w : World} {o1 : Obj} {b c : Nat} {v v' : Value} (h0 : w.cell? ⟨b, 0, none⟩ = some v) (h1 : w.cell? ⟨b, 1, none⟩ = some v') : (w.alloc o1).cell? ⟨b, 0, none⟩ = some v ∧ (w.alloc o1).cell? ⟨b, 1, none⟩ = some v' :=
  ⟨cell_keep (alloc1 _ _) h0, cell_keep (alloc1 _ _) h1⟩

theorem drew_cell (w : World) (a : Addr) : w.drew.cell? a = w.cell? a := rfl

theorem set5_drew {w : World} {b1 o0 o1 o2 o3 o4 : Nat} {v0 v1 v2 v3 v4 : Value} {b o : Nat} {v : Value} (hne : b ≠ b1) (h : w.drew.cell? ⟨b, o, none⟩ = some v) : (((((w.setCell ⟨b1, o0, none⟩ v0).setCell ⟨b1, o1, none⟩ v1).setCell ⟨b1, o2, none⟩ v2).setCell ⟨b1, o3, none⟩ v3).setCell ⟨b1, o4, none⟩ v4).drew.cell? ⟨b, o, none⟩ = some v := (drew_cell _ _).trans (set5_other hne ((drew_cell _ _).symm.trans h))

theorem bw_src (A : World) (s : ByteArray) : ∀ i, i < s.size → (bytesWorld A.drew 5 s).cell? ⟨A.heap.size, 0 + i, none⟩ = some (.int .u8 ((numsOf s).getD i 0)) := fun i hi => by
  rw [Nat.zero_add]
  have h := bytesWorld_cell A.drew 5 s i hi
  rw [numsOf_getD s i hi]
  have e : s.data.toList.getD i 0 = s[i] := by
    rw [List.getD_eq_getElem?_getD, List.getElem?_eq_getElem (by rw [Array.length_toList]; exact hi)]
    rfl
  rw [e] at h
  exact h

set_option maxRecDepth 100000 in
set_option maxHeartbeats 4000000 in
theorem txn_to_wire (sbt sb1 sb2 G M : Nat) (S1 S2 : Nat → Value) (D : Nat → RD) (E : Nat → WD) (w : World) (hG : G ≤ 1048576) (hM : M ≤ 1048576)
    (hc0 : w.cell? ⟨sbt, 0, none⟩ = some (.slice (some ⟨sb1, 0, none⟩) G G)) (hc1 : w.cell? ⟨sbt, 1, none⟩ = some (.slice (some ⟨sb2, 0, none⟩) M M))
    (hr1 : w.rowIs sb1 99 (G * 3) S1) (hr2 : w.rowIs sb2 104 (M * 11) S2) (hrd : RdDone w S1 D G) (hwr : WrDone S2 E M) (hdig : ∀ j, j < G → (D j).dig.size ≤ 1048576) (hop : OpW M E) :
    Calls Try.prog 29 #[.pointer (some ⟨sbt, 0, none⟩)] w (WirePost w G M D E) := by
  obtain ⟨C1, hC1, hmk1⟩ := make_any Try.underlying48 info54 G hG
  obtain ⟨C2, hC2, hmk2⟩ := make_any Try.underlying49 info62 M hM
  have hlt := cell_blk hc0
  go_enter Try.func29, Try.ntmps29
  go_wp2_with fail
  have T12 : Hid (WireTx w w.heap.size (((w.alloc (.cells C1 54)).alloc (.cells C2 62)).alloc (.cells #[.slice (some ⟨w.heap.size, 0, none⟩) G G, .slice (some ⟨w.heap.size + 1, 0, none⟩) M M] 51)).drew w.heap.size (w.heap.size + 1) (w.heap.size + 1 + 1) G M (fun i => (C1[i]?).getD undef) (fun i => (C2[i]?).getD undef)) := wtx12 w G M C1 C2 hC1 hC2
  have T21 : Hid (WireTx w w.heap.size (((w.alloc (.cells C2 62)).alloc (.cells C1 54)).alloc (.cells #[.slice (some ⟨w.heap.size + 1, 0, none⟩) G G, .slice (some ⟨w.heap.size, 0, none⟩) M M] 51)).drew (w.heap.size + 1) w.heap.size (w.heap.size + 1 + 1) G M (fun i => (C1[i]?).getD undef) (fun i => (C2[i]?).getD undef)) := wtx21 w G M C1 C2 hC1 hC2
  go_cut [3] from 9 to 22 (fun p wx => ∃ B b1 b2 bt F1 F2, p = .pointer (some ⟨bt, 0, none⟩) ∧ WireTx w B wx b1 b2 bt G M F1 F2 ∧ Hid (w.heap.size = B))
  case first =>
    go_region_held3 (fun w' => w'.cell? ⟨sbt, 0, none⟩ = some (.slice (some ⟨sb1, 0, none⟩) G G) ∧ w'.cell? ⟨sbt, 1, none⟩ = some (.slice (some ⟨sb2, 0, none⟩) M M))
      (first
        | exact ⟨hc0, hc1⟩
        | (go_split_ands; exact ⟨cell_keep (alloc1 _ _) (by assumption), cell_keep (alloc1 _ _) (by assumption)⟩)
        | go_keep) (fail)
    all_goals
      go_wp2_with fail
      go_meet
      first
        | exact ⟨_, _, _, _, _, _, rfl, T12.out, rfl⟩
        | exact ⟨_, _, _, _, _, _, rfl, T21.out, rfl⟩
  case rest =>
    obtain ⟨B, b1, b2, bt, F1z, F2z, rfl, h0, HB⟩ := hcut
    have H0 : Hid (WireTx w B wc b1 b2 bt G M F1z F2z) := h0
    have hsC : w.Since w.heap.size wc := by rw [HB.out]; exact h0.since
    have c0 := cell_keep hsC hc0
    clear h0 hC1 hC2 hmk1 hmk2 T12 T21 hlt hsC
    have HC0 : Hid (w.cell? ⟨sbt, 0, none⟩ = some (.slice (some ⟨sb1, 0, none⟩) G G)) := hc0
    have HC1 : Hid (w.cell? ⟨sbt, 1, none⟩ = some (.slice (some ⟨sb2, 0, none⟩) M M)) := hc1
    clear hc0 hc1
    go_wp2_with fail
    go_loopg [28] G (fun g n wr => ∃ (i : Nat) (F1 F2 : Nat → Value), i ≤ G ∧ g = G - i ∧ n = .int .i64 i ∧ WireTx w B wr b1 b2 bt G M F1 F2 ∧ RdOut wr F1 D i)
    case atStart => exact ⟨0, _, _, Nat.zero_le _, rfl, rfl, H0.out, fun j hj => by omega⟩
    case round =>
      clear H0 c0
      obtain ⟨i, F1, F2, hi, rfl, rfl, hT, hdn⟩ := hrel
      have hsW : w.Since w.heap.size wr := by rw [HB.out]; exact hT.since
      by_cases hiG : i < G
      · have hiz : (i : Int) < (G : Int) := by omega
        have hiz0 : (0 : Int) ≤ (i : Int) := by omega
        obtain ⟨d0, d1, d2⟩ := hrd i hiG
        have hmap : ∃ m, S1 (i * 3 + 1) = .map m := by
          rcases d1 with ⟨_, h⟩ | ⟨_, b, sz, h, _⟩
          · exact ⟨_, h⟩
          · exact ⟨_, h⟩
        obtain ⟨m, hm⟩ := hmap
        rw [hm] at d1
        have k0 : wr.cell? ⟨sb1, i * 3, none⟩ = some (.string (D i).key) := by rw [← d0]; exact cell_keep hsW (hr1.cell (by omega))
        have k1 : wr.cell? ⟨sb1, i * 3 + 1, none⟩ = some (.map m) := by rw [← hm]; exact cell_keep hsW (hr1.cell (by omega))
        have k2 : wr.cell? ⟨sb1, i * 3 + 2, none⟩ = some (.string (D i).dig) := by rw [← d2]; exact cell_keep hsW (hr1.cell (by omega))
        clear d0 d2 hm
        have HD : Hid (DepOK wr (.map m) (D i)) := d1.since hsW
        have HT0 : Hid (WireTx w B wr b1 b2 bt G M F1 F2 ∧ RdOut wr F1 D i) := ⟨hT, hdn⟩
        have hbig := hdig i hiG
        clear d1 hT hdn
        have hcv := fun w s => Lib.run_convert_string_bytes (P := Try.prog) w 9 59 5 s Try.underlying9 Try.underlying59 Try.underlying5
        go_wp2_with fail
        have HA : ∃ A nb, A = wr.alloc (.cells #[.string (D i).key, .map m, .string (D i).dig] 99) ∧ nb = wr.heap.size := ⟨_, _, rfl, rfl⟩
        obtain ⟨A, nb, EA, EN⟩ := HA
        rw [← EA, ← EN]
        have hsA : wr.Since wr.heap.size A := by rw [EA]; exact alloc1 _ _
        have hT1 : WireTx w B A b1 b2 bt G M F1 F2 := HT0.out.1.keep hsA
        have t0 : A.drew.cell? ⟨bt, 0, none⟩ = some (.slice (some ⟨b1, 0, none⟩) G G) := hT1.c0
        have g0 : A.drew.cell? ⟨nb, 0, none⟩ = some (.string (D i).key) := by rw [EA, EN]; exact (cell_of_row _ _ 0 _ _ _ (alloc_at _ _)).trans rfl
        have g1 : A.drew.cell? ⟨nb, 1, none⟩ = some (.map m) := by rw [EA, EN]; exact (cell_of_row _ _ 1 _ _ _ (alloc_at _ _)).trans rfl
        have g2 : A.drew.cell? ⟨nb, 2, none⟩ = some (.string (D i).dig) := by rw [EA, EN]; exact (cell_of_row _ _ 2 _ _ _ (alloc_at _ _)).trans rfl
        have n1 : bt ≠ b1 := fun e => hT1.n1t e.symm
        have nn : nb ≠ b1 := by rw [EN]; have := HT0.out.1.row1.lt; omega
        have HT1 : Hid (WireTx w B A b1 b2 bt G M F1 F2 ∧ RdOut A F1 D i ∧ DepOK A (.map m) (D i)) := ⟨hT1, HT0.out.2.since hsA, HD.out.since hsA⟩
        have HAB : Hid (∀ w5, (bytesWorld A.drew 5 (D i).dig).Since (bytesWorld A.drew 5 (D i).dig).heap.size w5 → A.Since A.heap.size w5) := fun w5 h5 => by
          have hb : A.Since A.heap.size (bytesWorld A.drew 5 (D i).dig) := bw_since ((World.Since.refl _ A).drew) (Nat.le_refl _) _
          exact hb.trans (since_mono h5 hb.size)
        have HQ : Hid (∀ w5, (bytesWorld A.drew 5 (D i).dig).Since (bytesWorld A.drew 5 (D i).dig).heap.size w5 → w5.cell? ⟨b1, i * 3, none⟩ = some (F1 (i * 3)) ∧ w5.cell? ⟨b1, i * 3 + 1, none⟩ = some (F1 (i * 3 + 1)) ∧ w5.cell? ⟨b1, i * 3 + 2, none⟩ = some (F1 (i * 3 + 2)) ∧ w5.frozen? ⟨b1, i * 3, none⟩ = false ∧ w5.frozen? ⟨b1, i * 3 + 1, none⟩ = false ∧ w5.frozen? ⟨b1, i * 3 + 2, none⟩ = false) := fun w5 h5 => by
          have hr := (hT1.keep (HAB.out w5 h5)).row1
          exact ⟨hr.cell (by omega), hr.cell (by omega), hr.cell (by omega), hr.frozen _, hr.frozen _, hr.frozen _⟩
        clear EA EN hT1 hsA HT0 HD k0 k1 k2 hsW
        have hblt : A.heap.size < (bytesWorld A.drew 5 (D i).dig).heap.size := by rw [bytesWorld_size]; exact Nat.lt_succ_self _
        have HLT : Hid (A.heap.size < (bytesWorld A.drew 5 (D i).dig).heap.size) := hblt
        clear hblt
        refine wp_region_noPanic ?_
        refine wp_region_held_drew (S := fun w' => w'.cell? ⟨bt, 0, none⟩ = some (.slice (some ⟨b1, 0, none⟩) G G) ∧ w'.cell? ⟨nb, 0, none⟩ = some (.string (D i).key) ∧ w'.cell? ⟨nb, 1, none⟩ = some (.map m) ∧ w'.cell? ⟨nb, 2, none⟩ = some (.string (D i).dig)) (by kernel_rfl) ?_ (fun hHeld => ?_)
        · exact ⟨t0, g0, g1, g2⟩
        refine wpAnyH_take (i := 0) (v := ?_) rfl (by kernel_rfl) (by kernel_rfl) (by kernel_rfl) (fun _ _ _ h => h) (Or.inl ⟨by rfl, ?hy⟩) (by assumption) ?_
        case hy => intro wX hSw; (try dsimp only at hSw); go_simp; try rfl
        try simp only [Act.put, List.getElem_toArray, List.getElem_cons_zero, List.getElem_cons_succ, List.setIfInBounds_toArray, List.set_cons_zero, List.set_cons_succ]
        refine wpAnyH_take (i := 1) (v := ?_) rfl (by kernel_rfl) (by kernel_rfl) (by kernel_rfl) (fun _ _ _ h => h) (Or.inl ⟨by rfl, ?hy⟩) (by assumption) ?_
        case hy => intro wX hSw; (try dsimp only at hSw); go_simp; try rfl
        try simp only [Act.put, List.getElem_toArray, List.getElem_cons_zero, List.getElem_cons_succ, List.setIfInBounds_toArray, List.set_cons_zero, List.set_cons_succ]
        refine wpAnyH_take (i := 2) (v := ?_) rfl (by kernel_rfl) (by kernel_rfl) (by kernel_rfl) (fun _ _ _ h => h) (Or.inl ⟨by rfl, ?hy⟩) (by assumption) ?_
        case hy => intro wX hSw; (try dsimp only at hSw); go_simp; try rfl
        try simp only [Act.put, List.getElem_toArray, List.getElem_cons_zero, List.getElem_cons_succ, List.setIfInBounds_toArray, List.set_cons_zero, List.set_cons_succ]
        refine wpAnyH_take (i := 3) (v := ?_) rfl (by kernel_rfl) (by kernel_rfl) (by kernel_rfl) (fun _ _ _ h => h) (Or.inl ⟨by rfl, ?hy⟩) (by assumption) ?_
        case hy => intro wX hSw; (try dsimp only at hSw); go_simp; try rfl
        try simp only [Act.put, List.getElem_toArray, List.getElem_cons_zero, List.getElem_cons_succ, List.setIfInBounds_toArray, List.set_cons_zero, List.set_cons_succ]
        refine wpAnyH_take (i := 4) (v := ?_) rfl (by kernel_rfl) (by kernel_rfl) (by kernel_rfl) (fun _ _ _ h => h) (Or.inl ⟨by rfl, ?hy⟩) (by assumption) ?_
        case hy => intro wX hSw; (try dsimp only at hSw); go_simp; try rfl
        try simp only [Act.put, List.getElem_toArray, List.getElem_cons_zero, List.getElem_cons_succ, List.setIfInBounds_toArray, List.set_cons_zero, List.set_cons_succ]
        refine wpAnyH_take (i := 5) (v := ?_) rfl (by kernel_rfl) (by kernel_rfl) (by kernel_rfl) (fun _ _ _ h => h) (Or.inl ⟨by rfl, ?hy⟩) (by assumption) ?_
        case hy => intro wX hSw; (try dsimp only at hSw); go_simp; try rfl
        try simp only [Act.put, List.getElem_toArray, List.getElem_cons_zero, List.getElem_cons_succ, List.setIfInBounds_toArray, List.set_cons_zero, List.set_cons_succ]
        refine wpAnyH_take (i := 6) (v := ?_) rfl (by kernel_rfl) (by kernel_rfl) (by kernel_rfl) (fun _ _ _ h => h) (Or.inl ⟨by rfl, ?hy⟩) (by assumption) ?_
        case hy => intro wX hSw; (try dsimp only at hSw); go_simp; try rfl
        try simp only [Act.put, List.getElem_toArray, List.getElem_cons_zero, List.getElem_cons_succ, List.setIfInBounds_toArray, List.set_cons_zero, List.set_cons_succ]
        refine wpAnyH_take (i := 7) (v := ?_) rfl (by kernel_rfl) (by kernel_rfl) (by kernel_rfl) (fun _ _ _ h => h) (Or.inl ⟨by rfl, ?hy⟩) (by assumption) ?_
        case hy => intro wX hSw; (try dsimp only at hSw); go_simp; try rfl
        try simp only [Act.put, List.getElem_toArray, List.getElem_cons_zero, List.getElem_cons_succ, List.setIfInBounds_toArray, List.set_cons_zero, List.set_cons_succ]
        refine wpAnyH_take (i := 8) (v := ?_) rfl (by kernel_rfl) (by kernel_rfl) (by kernel_rfl) (fun _ _ _ h => h) (Or.inl ⟨by rfl, ?hy⟩) (by assumption) ?_
        case hy => intro wX hSw; (try dsimp only at hSw); go_simp; try rfl
        try simp only [Act.put, List.getElem_toArray, List.getElem_cons_zero, List.getElem_cons_succ, List.setIfInBounds_toArray, List.set_cons_zero, List.set_cons_succ]
        refine wpAnyH_take (i := 9) (v := ?_) rfl (by kernel_rfl) (by kernel_rfl) (by kernel_rfl) (fun _ _ _ h => h) (Or.inl ⟨by rfl, ?hy⟩) (by assumption) ?_
        case hy => intro wX hSw; (try dsimp only at hSw); go_simp; try rfl
        try simp only [Act.put, List.getElem_toArray, List.getElem_cons_zero, List.getElem_cons_succ, List.setIfInBounds_toArray, List.set_cons_zero, List.set_cons_succ]
        refine wpAnyH_take (i := 10) (v := ?_) rfl (by kernel_rfl) (by kernel_rfl) (by kernel_rfl) (fun _ _ _ h => h) (Or.inl ⟨by rfl, ?hy⟩) (by assumption) ?_
        case hy => intro wX hSw; (try dsimp only at hSw); go_simp; try rfl
        try simp only [Act.put, List.getElem_toArray, List.getElem_cons_zero, List.getElem_cons_succ, List.setIfInBounds_toArray, List.set_cons_zero, List.set_cons_succ]
        refine wpAnyH_ready (rs := [11]) (by kernel_rfl) (by simp) ?_
        refine AllReadyH.cons rfl (fun K hK => ?_) AllReadyH.nil
        try simp only [List.getElem_toArray, List.getElem_cons_zero, List.getElem_cons_succ]
        go_simp
        refine hK.out _ _ ?_ (fun hHeld => ?_)
        · exact ⟨bw_cell t0, bw_cell g0, bw_cell g1, bw_cell g2⟩
        clear hK K
        try simp only [Act.put, List.getElem_toArray, List.getElem_cons_zero, List.getElem_cons_succ, List.setIfInBounds_toArray, List.set_cons_zero, List.set_cons_succ]
        refine wpAnyH_ready (rs := [12]) (by kernel_rfl) (by simp) ?_
        refine AllReadyH.cons rfl (fun K hK => ?_) AllReadyH.nil
        try simp only [List.getElem_toArray, List.getElem_cons_zero, List.getElem_cons_succ]
        go_simp
        go_at_call 37
        refine (hex_EncodeToString A.heap.size 0 _ (D i).dig _ (bw_src A (D i).dig) HLT.out hbig).mono ?_
        rintro e w5 ⟨rfl, hs5⟩
        obtain ⟨q0, q1, q2, z0, z1, z2⟩ := HQ.out w5 hs5
        go_wp2_with fail
        refine hK.out _ _ ?_ (fun hHeld => ?_)
        · exact ⟨cell_keep hs5 (bw_cell t0), cell_keep hs5 (bw_cell g0), cell_keep hs5 (bw_cell g1), cell_keep hs5 (bw_cell g2)⟩
        clear hK K
        try simp only [Act.put, List.getElem_toArray, List.getElem_cons_zero, List.getElem_cons_succ, List.setIfInBounds_toArray, List.set_cons_zero, List.set_cons_succ]
        refine wpAnyH_take (i := 13) (v := ?_) rfl (by kernel_rfl) (by kernel_rfl) (by kernel_rfl) (fun _ _ _ h => h) (Or.inl ⟨by rfl, ?hy⟩) (by assumption) ?_
        case hy => intro wX hSw; (try dsimp only at hSw); go_simp; try rfl
        try simp only [Act.put, List.getElem_toArray, List.getElem_cons_zero, List.getElem_cons_succ, List.setIfInBounds_toArray, List.set_cons_zero, List.set_cons_succ]
        refine wpAnyH_take (i := 14) (v := ?_) rfl (by kernel_rfl) (by kernel_rfl) (by kernel_rfl) (fun _ _ _ h => h) (Or.inl ⟨by rfl, ?hy⟩) (by assumption) ?_
        case hy => intro wX hSw; (try dsimp only at hSw); go_simp; try rfl
        try simp only [Act.put, List.getElem_toArray, List.getElem_cons_zero, List.getElem_cons_succ, List.setIfInBounds_toArray, List.set_cons_zero, List.set_cons_succ]
        refine wpAnyH_ready (rs := [15]) (by kernel_rfl) (by simp) ?_
        refine AllReadyH.cons rfl (fun K hK => ?_) AllReadyH.nil
        try simp only [List.getElem_toArray, List.getElem_cons_zero, List.getElem_cons_succ]
        go_simp
        refine hK.out _ _ ?_ (fun hHeld => ?_)
        · exact ⟨set3_other n1 (cell_keep hs5 (bw_cell t0)), set3_other nn (cell_keep hs5 (bw_cell g0)), set3_other nn (cell_keep hs5 (bw_cell g1)), set3_other nn (cell_keep hs5 (bw_cell g2))⟩
        clear hK K
        try simp only [Act.put, List.getElem_toArray, List.getElem_cons_zero, List.getElem_cons_succ, List.setIfInBounds_toArray, List.set_cons_zero, List.set_cons_succ]
        refine wpAnyH_done (by kernel_rfl) ?_ _
        refine NoPanic.normal ?_
        have hs6 := HAB.out w5 hs5
        obtain ⟨F1', hT', hdn'⟩ := (HT1.out.1.keep hs6).stepR (HT1.out.2.1.since hs6) (HT1.out.2.2.since hs6)
        have HT : Hid (WireTx w B (((w5.setCell ⟨b1, i * 3, none⟩ (.string (D i).key)).setCell ⟨b1, i * 3 + 1, none⟩ (.map m)).setCell ⟨b1, i * 3 + 2, none⟩ (.string (hexS (D i).dig))) b1 b2 bt G M F1' F2 ∧
          RdOut (((w5.setCell ⟨b1, i * 3, none⟩ (.string (D i).key)).setCell ⟨b1, i * 3 + 1, none⟩ (.map m)).setCell ⟨b1, i * 3 + 2, none⟩ (.string (hexS (D i).dig))) F1' D (i + 1)) := ⟨hT', hdn'⟩
        clear hT' hdn' HT1 hs5 hs6 g0 g1 g2 t0 q0 q1 q2 z0 z1 z2 n1 nn HQ HAB HLT hbig hcv
        go_wp2_with fail
        go_roundg (G - (i + 1))
        case measure => go_light; omega
        case rel => go_light; exact ⟨i + 1, F1', F2, by omega, rfl, by go_num, HT.out.1, HT.out.2⟩
      · obtain rfl : G = i := by omega
        have c1 := cell_keep hsW HC1.out
        go_wp2_with fail
        go_loopg [54] M (fun g n wr => ∃ (j : Nat) (F1 F2 : Nat → Value), j ≤ M ∧ g = M - j ∧ n = .int .i64 j ∧ WireTx w B wr b1 b2 bt G M F1 F2 ∧ RdOut wr F1 D G ∧ WrOut wr F2 E j)
        case atStart => exact ⟨0, F1, F2, Nat.zero_le _, rfl, rfl, hT, hdn, fun j hj => by omega⟩
        case round =>
          clear hT hdn F1 F2 hsW c1
          obtain ⟨j, F1, F2, hj, rfl, rfl, hT, hdn, hwd⟩ := hrel
          have hsW : w.Since w.heap.size wr := by rw [HB.out]; exact hT.since
          by_cases hjM : j < M
          · have hjz : (j : Int) < (M : Int) := by omega
            have hjz0 : (0 : Int) ≤ (j : Int) := by omega
            have hrg : wr.rangeAt sb2 (j * 11) (E j).sc.toList := range_keep hsW (rowIs_range hr2 (by rw [WD.sc_len]; omega) (fun q hq => by rw [WD.sc_len] at hq; have := hwr j hjM q hq; simpa using this))
            have HRg : Hid (wr.rangeAt sb2 (j * 11) (E j).sc.toList) := hrg
            have HT0 : Hid (WireTx w B wr b1 b2 bt G M F1 F2 ∧ RdOut wr F1 D G ∧ WrOut wr F2 E j) := ⟨hT, hdn, hwd⟩
            clear hrg hT hdn hwd hsW
            have HA0 : Hid ((wr.alloc (.cells (sCells 0 ⟨#[]⟩ ⟨#[]⟩ 0 0 false) 104)).heap[wr.heap.size]? = some (.cells (sCells 0 ⟨#[]⟩ ⟨#[]⟩ 0 0 false) 104 (0, 0))) := alloc_at _ _
            have HA1 : Hid (((wr.alloc (.cells (sCells 0 ⟨#[]⟩ ⟨#[]⟩ 0 0 false) 104)).setRow wr.heap.size (E j).sc).heap[wr.heap.size]? = some (.cells (E j).sc 104 (0, 0))) := setRow_heap _ _ _ _ 104 (0, 0) HA0.out
            have HS1 : Hid (wr.Since wr.heap.size ((wr.alloc (.cells (sCells 0 ⟨#[]⟩ ⟨#[]⟩ 0 0 false) 104)).setRow wr.heap.size (E j).sc)) := since_setRow (alloc1 _ _) (Nat.le_refl _) _
            go_wp2_with (first
              | (refine wpList_load_arr rfl 104 _ rfl sb2 (j * 11) rfl (E j).sc _ HRg.out Try.underlying104 rfl (size104 _ _ _ _ _ _) ?_)
              | (refine wpList_store_row rfl 104 _ _ rfl wr.heap.size (E j).sc rfl rfl 104 _ HA0.out (size104 _ _ _ _ _ _) rfl (one104 _ _ _ _ _ _) ?_)
              | (refine wpList_load_row rfl 104 _ rfl wr.heap.size rfl 104 (E j).sc (0, 0) _ HA1.out Try.underlying104 rfl (size104 _ _ _ _ _ _) ?_))
            refine (to_wire (E j) _ (hop j hjM)).mono ?_
            rintro e w5 ⟨o, v, dl, p, rfl, hwo, hs5⟩
            have hs6 : wr.Since wr.heap.size w5 := HS1.out.trans (since_mono hs5 HS1.out.size)
            clear HA0 HA1 HS1 hs5 HRg
            obtain ⟨os, va, vn, vc, dz, pa, rfl, rfl, rfl, rfl⟩ := hwo.shape
            have HW : Hid (WOut w5 (E j) (.string os) (.slice va vn vc) (.int .i64 dz) (.pointer pa)) := hwo
            have HS6 : Hid (wr.Since wr.heap.size w5) := hs6
            clear hwo hs6
            go_wp2_with fail
            have HA : ∃ A nb, A = w5.alloc (.cells #[.int .i64 0, .string ⟨#[]⟩, .string os, .string (E j).key, .slice va vn vc, .int .i64 dz, .pointer pa, .pointer none] 115) ∧ nb = w5.heap.size := ⟨_, _, rfl, rfl⟩
            obtain ⟨A, nb, EA, EN⟩ := HA
            rw [← EA, ← EN]
            have hs7 : w5.Since w5.heap.size A := by rw [EA]; exact alloc1 _ _
            have hsA : wr.Since wr.heap.size A := HS6.out.trans (since_mono hs7 HS6.out.size)
            have hT1 : WireTx w B A b1 b2 bt G M F1 F2 := HT0.out.1.keep hsA
            have t1 : A.drew.cell? ⟨bt, 1, none⟩ = some (.slice (some ⟨b2, 0, none⟩) M M) := hT1.c1
            have g2 : A.drew.cell? ⟨nb, 2, none⟩ = some (.string os) := by rw [EA, EN]; exact (cell_of_row _ _ 2 _ _ _ (alloc_at _ _)).trans rfl
            have g3 : A.drew.cell? ⟨nb, 3, none⟩ = some (.string (E j).key) := by rw [EA, EN]; exact (cell_of_row _ _ 3 _ _ _ (alloc_at _ _)).trans rfl
            have g4 : A.drew.cell? ⟨nb, 4, none⟩ = some (.slice va vn vc) := by rw [EA, EN]; exact (cell_of_row _ _ 4 _ _ _ (alloc_at _ _)).trans rfl
            have g5 : A.drew.cell? ⟨nb, 5, none⟩ = some (.int .i64 dz) := by rw [EA, EN]; exact (cell_of_row _ _ 5 _ _ _ (alloc_at _ _)).trans rfl
            have g6 : A.drew.cell? ⟨nb, 6, none⟩ = some (.pointer pa) := by rw [EA, EN]; exact (cell_of_row _ _ 6 _ _ _ (alloc_at _ _)).trans rfl
            have n1 : bt ≠ b2 := fun e => hT1.n2t e.symm
            have nn : nb ≠ b2 := by rw [EN]; have := HT0.out.1.row2.lt; have := HS6.out.size; omega
            have q0 := hT1.row2.cell (i := j * 5) (by omega)
            have q1 := hT1.row2.cell (i := j * 5 + 1) (by omega)
            have q2 := hT1.row2.cell (i := j * 5 + 2) (by omega)
            have q3 := hT1.row2.cell (i := j * 5 + 3) (by omega)
            have q4 := hT1.row2.cell (i := j * 5 + 4) (by omega)
            have z0 := hT1.row2.frozen (j * 5)
            have z1 := hT1.row2.frozen (j * 5 + 1)
            have z2 := hT1.row2.frozen (j * 5 + 2)
            have z3 := hT1.row2.frozen (j * 5 + 3)
            have z4 := hT1.row2.frozen (j * 5 + 4)
            have hstep := hT1.stepW (HT0.out.2.1.since hsA) (HT0.out.2.2.since hsA) (HW.out.since hs7)
            clear EA EN hT1 hsA HT0 HS6 hs7 HW
            go_region_held3 (fun w' => w'.cell? ⟨bt, 1, none⟩ = some (.slice (some ⟨b2, 0, none⟩) M M) ∧ w'.cell? ⟨nb, 2, none⟩ = some (.string os) ∧ w'.cell? ⟨nb, 3, none⟩ = some (.string (E j).key) ∧ w'.cell? ⟨nb, 4, none⟩ = some (.slice va vn vc) ∧ w'.cell? ⟨nb, 5, none⟩ = some (.int .i64 dz) ∧ w'.cell? ⟨nb, 6, none⟩ = some (.pointer pa))
              (first
                | (simp only [t1, g2, g3, g4, g5, g6, and_self]; done)
                | exact ⟨set5_drew n1 t1, set5_drew nn g2, set5_drew nn g3, set5_drew nn g4, set5_drew nn g5, set5_drew nn g6⟩)
              (fail)
            obtain ⟨F2', hT', hdn', hwd'⟩ := hstep
            clear t1 g2 g3 g4 g5 g6 n1 nn q0 q1 q2 q3 q4 z0 z1 z2 z3 z4
            generalize (((((A.setCell ⟨b2, j * 5, none⟩ (.string os)).setCell ⟨b2, j * 5 + 1, none⟩ (.string (E j).key)).setCell ⟨b2, j * 5 + 2, none⟩ (.slice va vn vc)).setCell ⟨b2, j * 5 + 3, none⟩ (.int .i64 dz)).setCell ⟨b2, j * 5 + 4, none⟩ (.pointer pa)) = A5 at hT' hdn' hwd' ⊢
            have hsd : A5.Since A5.heap.size A5.drew := (World.Since.refl _ _).drew
            have HT : Hid (WireTx w B A5.drew b1 b2 bt G M F1 F2' ∧ RdOut A5.drew F1 D G ∧ WrOut A5.drew F2' E (j + 1)) := ⟨hT'.keep hsd, hdn'.since hsd, hwd'.since hsd⟩
            clear hT' hdn' hwd' hsd
            go_wp2_with fail
            go_roundg (M - (j + 1))
            case measure => go_light; omega
            case rel => go_light; exact ⟨j + 1, F1, F2', by omega, rfl, by go_num, HT.out.1, HT.out.2.1, HT.out.2.2⟩
          · obtain rfl : M = j := by omega
            go_wp2_with fail
            go_ret
            rw [← HB.out] at hT
            exact ⟨_, _, _, _, _, rfl, hT, hdn, hwd⟩
end Go.Proofs.Qxb6618655a
