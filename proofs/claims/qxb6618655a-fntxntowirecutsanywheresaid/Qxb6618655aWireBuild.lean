/-
  leeway, the wire: zzBuildTxn (22).
-/
import Derived.Test.Qxb6618655aWireRows
import Derived.Deep.DeepCutAuto
import Derived.Deep.CutRange
namespace Go.Proofs.Qxb6618655a
open Go.RowKit Go.Lib
set_option linter.unusedVariables false

theorem run_cells_mid {P : Program} (w : World) (b o : Nat) (U : Array Value) (ht : w.there b o U.size) (h1 : U.all (·.oneCell') = true) : (storeCells ⟨b, o, none⟩ U.toList).run P w = .ok () (w.setCells b o U.toList) := by
  have := run_storeCells_cells (P := P) b o U.toList 0 w (fun j hj => by simpa using (ht j (by simpa using hj)).1) (fun j hj => by simpa using (ht j (by simpa using hj)).2)
    (fun v hv => (Array.all_eq_true_iff_forall_mem.1 h1) v (by simpa using hv))
  simpa using this

set_option maxRecDepth 100000 in
set_option maxHeartbeats 4000000 in
theorem build_txn (ra : Option Addr) (rb ro G Gc : Nat) (D : Nat → RD) (wa : Option Addr) (wb wo M Mc : Nat) (E : Nat → WD) (w : World) (hG : G ≤ 1048576) (hM : M ≤ 1048576) (hD : ∀ i, i < G → (D i).Fit)
    (hR : RdIn w ra rb ro G D) (hW : WrIn w wa wb wo M E) :
    Calls Try.prog 22 #[.slice ra G Gc, .slice wa M Mc] w (BuildPost w G M D E) := by
  obtain ⟨C1, hC1, hmk1⟩ := make_any Try.underlying93 info99 G hG
  obtain ⟨C2, hC2, hmk2⟩ := make_any Try.underlying94 info104 M hM
  go_enter Try.func22, Try.ntmps22
  go_wp2_with fail
  have T12 : Hid (TxnAt w w.heap.size (((w.alloc (.cells C1 99)).alloc (.cells C2 104)).alloc (.cells #[.slice (some ⟨w.heap.size, 0, none⟩) G G, .slice (some ⟨w.heap.size + 1, 0, none⟩) M M] 96)).drew w.heap.size (w.heap.size + 1) (w.heap.size + 1 + 1) G M (fun i => (C1[i]?).getD undef) (fun i => (C2[i]?).getD undef)) := txn12 w G M C1 C2 hC1 hC2
  have T21 : Hid (TxnAt w w.heap.size (((w.alloc (.cells C2 104)).alloc (.cells C1 99)).alloc (.cells #[.slice (some ⟨w.heap.size + 1, 0, none⟩) G G, .slice (some ⟨w.heap.size, 0, none⟩) M M] 96)).drew (w.heap.size + 1) w.heap.size (w.heap.size + 1 + 1) G M (fun i => (C1[i]?).getD undef) (fun i => (C2[i]?).getD undef)) := txn21 w G M C1 C2 hC1 hC2
  go_cut [5] from 8 to 15 (fun p wx => ∃ B b1 b2 bt F1 F2, p = .pointer (some ⟨bt, 0, none⟩) ∧ TxnAt w B wx b1 b2 bt G M F1 F2 ∧ Hid (w.heap.size = B))
  case first =>
    go_region
    all_goals
      go_wp2_with fail
      go_meet
      first
        | exact ⟨_, _, _, _, _, _, rfl, T12.out, rfl⟩
        | exact ⟨_, _, _, _, _, _, rfl, T21.out, rfl⟩
  case rest =>
    obtain ⟨B, b1, b2, bt, F1z, F2z, rfl, h0, HB⟩ := hcut
    have H0 : Hid (TxnAt w B wc b1 b2 bt G M F1z F2z) := h0
    clear h0 hC1 hC2 hmk1 hmk2 T12 T21
    go_wp2_with fail
    go_loopg [6] G (fun g n wr => ∃ (i : Nat) (F1 F2 : Nat → Value), i ≤ G ∧ g = G - i ∧ n = .int .i64 i ∧ TxnAt w B wr b1 b2 bt G M F1 F2 ∧ RdDone wr F1 D i)
    case atStart => exact ⟨0, _, _, Nat.zero_le _, rfl, rfl, H0.out, fun j hj => by omega⟩
    case round =>
      clear H0
      obtain ⟨i, F1, F2, hi, rfl, rfl, hT, hdn⟩ := hrel
      by_cases hiG : i < G
      · obtain rfl := hR.ra (by omega)
        have hiz : (i : Int) < (G : Int) := by omega
        have hiz0 : (0 : Int) ≤ (i : Int) := by omega
        have hsW : w.Since w.heap.size wr := by rw [HB.out]; exact hT.since
        have hR2 := hR.since hsW
        have g0 := hR2.c0 i hiG
        have g1 := hR2.c1 i hiG
        have g2 := hR2.c2 i hiG
        have g3 := hR2.c3 i hiG
        have t0 := hT.c0
        have k0 := hT.row1.cell (i := i * 3) (by omega)
        have k1 := hT.row1.cell (i := i * 3 + 1) (by omega)
        have k2 := hT.row1.cell (i := i * 3 + 2) (by omega)
        have z0 := hT.row1.frozen (i * 3)
        have z1 := hT.row1.frozen (i * 3 + 1)
        have z2 := hT.row1.frozen (i * 3 + 2)
        have n1 := hT.n1t
        have hlr := cell_blk (hR.c0 i hiG)
        have nr : rb ≠ b1 := by have := hT.l1; have := HB.out; omega
        have lb1 := hT.row1.lt
        have hI : (D i).In wr.drew := (hR2.inn i hiG).since (World.Since.drew (World.Since.refl _ _))
        have n1' : bt ≠ b1 := fun e => n1 e.symm
        have hF := hD i hiG
        clear hR2
        go_wp2_with fail
        go_region_held3 (fun w' => w'.cell? ⟨bt, 0, none⟩ = some (.slice (some ⟨b1, 0, none⟩) G G) ∧ w'.cell? ⟨rb, ro + i * 4, none⟩ = some (.string (D i).key) ∧ w'.cell? ⟨rb, ro + i * 4 + 1, none⟩ = some (.slice (D i).ida (D i).idl (D i).idc) ∧ w'.cell? ⟨rb, ro + i * 4 + 2, none⟩ = some (.slice (D i).ta (D i).tl (D i).tc) ∧ w'.cell? ⟨rb, ro + i * 4 + 3, none⟩ = some (.string (D i).dig) ∧
            w'.cell? ⟨b1, i * 3, none⟩ = some (vat w' b1 (i * 3)) ∧ w'.cell? ⟨b1, i * 3 + 1, none⟩ = some (vat w' b1 (i * 3 + 1)) ∧ w'.cell? ⟨b1, i * 3 + 2, none⟩ = some (vat w' b1 (i * 3 + 2)) ∧ w'.frozen? ⟨b1, i * 3, none⟩ = false ∧ w'.frozen? ⟨b1, i * 3 + 1, none⟩ = false ∧ w'.frozen? ⟨b1, i * 3 + 2, none⟩ = false)
          (first
            | exact ⟨t0, g0, g1, g2, g3, vat_of k0, vat_of k1, vat_of k2, z0, z1, z2⟩
            | exact ⟨cell_keep hs5 t0, cell_keep hs5 g0, cell_keep hs5 g1, cell_keep hs5 g2, cell_keep hs5 g3, vat_of (cell_keep hs5 k0), vat_of (cell_keep hs5 k1), vat_of (cell_keep hs5 k2), frozen_keep hs5 lb1 z0, frozen_keep hs5 lb1 z1, frozen_keep hs5 lb1 z2⟩
            | exact ⟨set3_other n1' (cell_keep hs5 t0), set3_other nr (cell_keep hs5 g0), set3_other nr (cell_keep hs5 g1), set3_other nr (cell_keep hs5 g2), set3_other nr (cell_keep hs5 g3),
                vat_of (((((hT.row1.of_block (hs5.block b1 lb1)).set _ _).set _ _).set _ _).cell (by omega)), vat_of (((((hT.row1.of_block (hs5.block b1 lb1)).set _ _).set _ _).set _ _).cell (by omega)), vat_of (((((hT.row1.of_block (hs5.block b1 lb1)).set _ _).set _ _).set _ _).cell (by omega)),
                ((((hT.row1.of_block (hs5.block b1 lb1)).set _ _).set _ _).set _ _).frozen _, ((((hT.row1.of_block (hs5.block b1 lb1)).set _ _).set _ _).set _ _).frozen _, ((((hT.row1.of_block (hs5.block b1 lb1)).set _ _).set _ _).set _ _).frozen _⟩
            | go_keep)
          (first | (go_at_call 30; refine (deps_map (D i) _ hI hF).mono ?_; rintro e w5 ⟨m, rfl, hd5, hs5⟩))
        obtain ⟨F1', hT', hdn'⟩ := hT.stepR HB.out hdn hs5 hd5 hiG
        have HT : Hid (TxnAt w B (((w5.setCell ⟨b1, i * 3, none⟩ (.string (D i).key)).setCell ⟨b1, i * 3 + 1, none⟩ (.map m)).setCell ⟨b1, i * 3 + 2, none⟩ (.string (D i).dig)) b1 b2 bt G M F1' F2 ∧
          RdDone (((w5.setCell ⟨b1, i * 3, none⟩ (.string (D i).key)).setCell ⟨b1, i * 3 + 1, none⟩ (.map m)).setCell ⟨b1, i * 3 + 2, none⟩ (.string (D i).dig)) F1' D (i + 1)) := ⟨hT', hdn'⟩
        clear hT' hdn' hT hdn hs5 hd5 g0 g1 g2 g3 t0 k0 k1 k2 z0 z1 z2 n1 n1' nr lb1 hI hF hlr hsW
        go_wp2_with fail
        go_roundg (G - (i + 1))
        case measure => go_light; omega
        case rel => go_light; exact ⟨i + 1, F1', F2, by omega, rfl, by go_num, HT.out.1, HT.out.2⟩
      · obtain rfl : G = i := by omega
        go_wp2_with fail
        go_loopg [7] M (fun g n wr => ∃ (j : Nat) (F1 F2 : Nat → Value), j ≤ M ∧ g = M - j ∧ n = .int .i64 j ∧ TxnAt w B wr b1 b2 bt G M F1 F2 ∧ RdDone wr F1 D G ∧ WrDone F2 E j)
        case atStart => exact ⟨0, F1, F2, Nat.zero_le _, rfl, rfl, hT, hdn, fun j hj => by omega⟩
        case round =>
          clear hT hdn F1 F2
          obtain ⟨j, F1, F2, hj, rfl, rfl, hT, hdn, hwd⟩ := hrel
          by_cases hjM : j < M
          · obtain rfl := hW.wa (by omega)
            have hjz : (j : Int) < (M : Int) := by omega
            have hjz0 : (0 : Int) ≤ (j : Int) := by omega
            have hsW : w.Since w.heap.size wr := by rw [HB.out]; exact hT.since
            have hW2 := hW.since hsW
            have g0 : wr.drew.cell? ⟨wb, wo + j * 6, none⟩ = some (.int .u8 (E j).op) := hW2.c0 j hjM
            have g1 : wr.drew.cell? ⟨wb, wo + j * 6 + 1, none⟩ = some (.string (E j).key) := hW2.c1 j hjM
            have g2 : wr.drew.cell? ⟨wb, wo + j * 6 + 2, none⟩ = some (.string (E j).val) := hW2.c2 j hjM
            have g3 : wr.drew.cell? ⟨wb, wo + j * 6 + 3, none⟩ = some (.int .i64 (E j).dlt) := hW2.c3 j hjM
            have g4 : wr.drew.cell? ⟨wb, wo + j * 6 + 4, none⟩ = some (.bool (E j).wd) := hW2.c4 j hjM
            have g5 : wr.drew.cell? ⟨wb, wo + j * 6 + 5, none⟩ = some (.int .i64 (E j).wt) := hW2.c5 j hjM
            have t1 : wr.drew.cell? ⟨bt, 1, none⟩ = some (.slice (some ⟨b2, 0, none⟩) M M) := hT.c1
            have nt : bt ≠ b2 := fun e => hT.n2t e.symm
            have nw : wb ≠ b2 := by have := cell_blk (hW.c0 j hjM); have := hT.l2; have := HB.out; omega
            have lb2 := hT.row2.lt
            have HT0 : Hid (TxnAt w B wr b1 b2 bt G M F1 F2 ∧ RdDone wr F1 D G ∧ WrDone F2 E j) := ⟨hT, hdn, hwd⟩
            have hth : ∀ w5 : World, wr.drew.Since wr.drew.heap.size w5 → w5.there b2 (j * 11) (E j).sc.size := fun w5 hs5 => rowIs_there (hT.row2.of_block (hs5.block b2 lb2)) (by rw [WD.sc_size]; omega)
            have HTh : Hid (∀ w5 : World, wr.drew.Since wr.drew.heap.size w5 → w5.there b2 (j * 11) (E j).sc.size) := hth
            clear hW2 hth hT hdn hwd
            go_wp2_with fail
            go_region_held3 (fun w' => w'.cell? ⟨bt, 1, none⟩ = some (.slice (some ⟨b2, 0, none⟩) M M) ∧ w'.cell? ⟨wb, wo + j * 6, none⟩ = some (.int .u8 (E j).op) ∧ w'.cell? ⟨wb, wo + j * 6 + 1, none⟩ = some (.string (E j).key) ∧ w'.cell? ⟨wb, wo + j * 6 + 2, none⟩ = some (.string (E j).val) ∧ w'.cell? ⟨wb, wo + j * 6 + 3, none⟩ = some (.int .i64 (E j).dlt) ∧ w'.cell? ⟨wb, wo + j * 6 + 4, none⟩ = some (.bool (E j).wd) ∧ w'.cell? ⟨wb, wo + j * 6 + 5, none⟩ = some (.int .i64 (E j).wt))
              (first
                | exact ⟨setCells_cell nt (cell_keep hs5 t1), setCells_cell nw (cell_keep hs5 g0), setCells_cell nw (cell_keep hs5 g1), setCells_cell nw (cell_keep hs5 g2), setCells_cell nw (cell_keep hs5 g3), setCells_cell nw (cell_keep hs5 g4), setCells_cell nw (cell_keep hs5 g5)⟩
                | exact ⟨cell_keep hs5 t1, cell_keep hs5 g0, cell_keep hs5 g1, cell_keep hs5 g2, cell_keep hs5 g3, cell_keep hs5 g4, cell_keep hs5 g5⟩
                | exact ⟨t1, g0, g1, g2, g3, g4, g5⟩)
              (first | (go_at_call 31; refine (store_write (E j) _).mono ?_; rintro e w5 ⟨rfl, hs5⟩; have hst := run_cells_mid (P := Try.prog) w5 b2 (j * 11) (E j).sc (HTh.out w5 hs5) (one104 _ _ _ _ _ _)))
            obtain ⟨F2', hT', hdn', hwd'⟩ := HT0.out.1.stepW HT0.out.2.1 HT0.out.2.2 ⟨hs5.os, hs5.tape, hs5.output, hs5.size, hs5.block⟩ hjM
            have HT : Hid (TxnAt w B (w5.setCells b2 (j * 11) (E j).sc.toList) b1 b2 bt G M F1 F2' ∧ RdDone (w5.setCells b2 (j * 11) (E j).sc.toList) F1 D G ∧ WrDone F2' E (j + 1)) := ⟨hT', hdn', hwd'⟩
            clear hT' hdn' hwd' hs5 g0 g1 g2 g3 g4 g5 t1 nt nw lb2 hsW HT0 HTh hst
            go_wp2_with fail
            go_roundg (M - (j + 1))
            case measure => go_light; omega
            case rel => go_light; exact ⟨j + 1, F1, F2', by omega, rfl, by go_num, HT.out.1, HT.out.2.1, HT.out.2.2⟩
          · obtain rfl : M = j := by omega
            go_wp2_with fail
            go_ret
            rw [← HB.out] at hT
            exact ⟨_, _, _, _, _, rfl, hT, hdn, hwd⟩
end Go.Proofs.Qxb6618655a
