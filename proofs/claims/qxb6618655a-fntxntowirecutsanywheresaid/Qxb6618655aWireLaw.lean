/-
  leeway, the wire: FnTxnToWireCutsAnywhere (7).
-/
import Derived.Test.Qxb6618655aWireKeep
namespace Go.Proofs.Qxb6618655a
open Go.RowKit Go.Lib
set_option linter.unusedVariables false

theorem sl39 (ra : Option Addr) (G Gc c : Nat) (h : c ≤ G) (w : World) :
    (Instr.slice 39 (.slice ra G Gc) (some (.int .i64 (c : Int))) none none).run Try.prog w = .ok (.slice (if Gc = c then ra else ra.map (·.add (c * 4))) (G - c) (Gc - c)) w := by
  have z1 : (0 : Int) ≤ (c : Int) := by omega
  have z2 : (c : Int) ≤ (G : Int) := by omega
  go_simp
theorem sl40 (ra : Option Addr) (G Gc c : Nat) (h : c ≤ G) (w : World) :
    (Instr.slice 40 (.slice ra G Gc) (some (.int .i64 (c : Int))) none none).run Try.prog w = .ok (.slice (if Gc = c then ra else ra.map (·.add (c * 6))) (G - c) (Gc - c)) w := by
  have z1 : (0 : Int) ≤ (c : Int) := by omega
  have z2 : (c : Int) ≤ (G : Int) := by omega
  go_simp

theorem sl_ra {ra : Option Addr} {rb ro G Gc c n : Nat} (hra : 0 < G → ra = some ⟨rb, ro, none⟩) (hc : c ≤ G) (hG : G ≤ Gc) (h0 : 0 < G - c) : (if Gc = c then ra else ra.map (·.add (c * n))) = some ⟨rb, ro + c * n, none⟩ := by
  rw [if_neg (by omega), hra (by omega)]
  simp [Addr.add_mid]

set_option maxRecDepth 100000 in
set_option maxHeartbeats 4000000 in
theorem cuts_walk (ra : Option Addr) (rb ro G Gc : Nat) (D : Nat → RD) (wa : Option Addr) (wb wo M Mc : Nat) (E : Nat → WD) (cr cw : Int) (w : World) (hG : G ≤ 9223372036854775807) (hM : M ≤ 9223372036854775807) (hGc : G ≤ Gc) (hMc : M ≤ Mc) (hD : ∀ i, i < G → (D i).Cap) (hE : ∀ i, i < M → (E i).key.size ≤ 9223372036854775807 ∧ (E i).val.size ≤ 9223372036854775807)
    (hR : RdIn w ra rb ro G D) (hW : WrIn w wa wb wo M E) :
    Calls Try.prog 7 #[.slice ra G Gc, .slice wa M Mc, .int .i64 cr, .int .i64 cw] w (TrueN w) := by
  go_enter Try.func7, Try.ntmps7
  go_wp2_with fail
  refine (bytes18 ra rb ro G Gc D wa wb wo M Mc E cr cw w hG hM hD hE hR hW).mono ?_
  rintro e w1 ⟨⟨b, rfl, hb⟩, hw⟩
  have hw' := hw.symm
  subst hw'
  clear hw
  cases b with
  | false =>
    go_wp2_with fail
    go_ret
    exact ⟨rfl, World.Since.refl _ _⟩
  | true =>
    obtain ⟨hG1, hM1, hSR, hSW⟩ := hb rfl
    clear hb
    go_wp2_with fail
    refine (txn_bytes ra rb ro G Gc D wa wb wo M Mc E _ hG1 hM1 hSR hSW hR hW).mono ?_
    rintro e w2 ⟨⟨z, rfl⟩, hs2⟩
    by_cases hz : (1048576 : Int) < z
    · go_wp2_with fail
      go_ret
      exact ⟨rfl, hs2⟩
    have hzd : decide ((1048576 : Int) < z) = false := by simp; omega
    have HZ : Hid (¬ (1048576 : Int) < z) := hz
    clear hz
    by_cases hc : 0 ≤ cr ∧ cr ≤ (G : Int) ∧ 0 ≤ cw ∧ cw ≤ (M : Int)
    · obtain ⟨h1, h2, h3, h4⟩ := hc
      obtain ⟨c, rfl⟩ : ∃ c : Nat, cr = (c : Int) := ⟨cr.toNat, by omega⟩
      obtain ⟨k, rfl⟩ : ∃ k : Nat, cw = (k : Int) := ⟨cw.toNat, by omega⟩
      have d1 : decide ((c : Int) < 0) = false := by simp
      have d3 : decide ((k : Int) < 0) = false := by simp
      have d2 : decide ((G : Int) < (c : Int)) = false := by simp; omega
      have d4 : decide ((M : Int) < (k : Int)) = false := by simp; omega
      have hcG : c ≤ G := by omega
      have hkM : k ≤ M := by omega
      have HD : Hid (∀ i, i < G → (D i).Cap) := hD
      clear hD hE
      go_wp2_with fail
      refine (in_domain ra rb ro G Gc D wa wb wo M Mc E _ hG1 hM1 hSR (hR.since hs2) (hW.since hs2)).mono ?_
      rintro e w3 ⟨⟨b, rfl, hb⟩, hs3⟩
      have hs3' := hs2.trans (since_mono hs3 hs2.size)
      cases b with
      | false =>
        go_wp2_with fail
        go_ret
        exact ⟨rfl, hs3'⟩
      | true =>
        obtain ⟨hTl, hOp⟩ := hb rfl
        have hFit := fit_of hSR hTl
        clear hb hs3 hs2 HD d1 d2 d3 d4 hzd
        go_wp2_with fail
        refine (build_txn ra rb ro G Gc D wa wb wo M Mc E _ hG1 hM1 hFit (hR.since hs3') (hW.since hs3')).mono ?_
        rintro e w4 ⟨sb1, sb2, sbt, S1, S2, rfl, hTx, hrd, hwd⟩
        have hs4 := hs3'.trans (since_mono hTx.since hs3'.size)
        go_wp2_with fail
        refine (zz_send sbt sb1 sb2 G M S1 S2 D E _ _ _ hG1 hM1 hTx hrd hwd hFit hOp).mono ?_
        rintro e w5 ⟨bt, b1, b2, F1, F2, rfl, hX, hs5⟩
        have hs5' := hs4.trans (since_mono hs5 hs4.size)
        have HX : Hid (Wire w5 bt b1 b2 G M F1 F2 D E) := hX
        clear hs4 hs5 hs3' hTx hrd hwd hX
        go_wp2_with fail
        have hs6 : w.Since w.heap.size w5.drew := hs5'.drew
        have HRh : Hid (∀ (w' : World) (ra' : Option Addr), w.Since w.heap.size w' → (0 < c → ra' = some ⟨rb, ro, none⟩) → RdIn w' ra' rb ro c D) := fun w' ra' hs ha => (hR.since hs).head hcG ha
        have HWh : Hid (∀ (w' : World) (wa' : Option Addr), w.Since w.heap.size w' → (0 < k → wa' = some ⟨wb, wo, none⟩) → WrIn w' wa' wb wo k E) := fun w' wa' hs ha => (hW.since hs).head hkM ha
        have HRa : Hid (0 < G → ra = some ⟨rb, ro, none⟩) := hR.ra
        have HWa : Hid (0 < M → wa = some ⟨wb, wo, none⟩) := hW.wa
        have HFh : Hid (∀ i, i < c → (D i).Fit) := fun i hi => hFit i (by omega)
        have HOh : Hid (OpW k E) := fun i hi => hOp i (by omega)
        have hc1 : c ≤ 1048576 := by omega
        have hk1 : k ≤ 1048576 := by omega
        have z1 : (0 : Int) ≤ (c : Int) := by omega
        have z2 : (c : Int) ≤ (Gc : Int) := by omega
        have z3 : (0 : Int) ≤ (k : Int) := by omega
        have z4 : (k : Int) ≤ (Mc : Int) := by omega
        go_region_held3 (fun w' => True)
          (trivial)
          (first
            | (go_at_call 22; refine (build_txn _ rb ro c _ D _ wb wo k _ E _ hc1 hk1 HFh.out (HRh.out _ _ hs6 (fun h => HRa.out (by omega))) (HWh.out _ _ hs6 (fun h => HWa.out (by omega)))).mono ?_; rintro e w6 ⟨sb1, sb2, sbt, S1, S2, rfl, hTx, hrd, hwd⟩)
            | (go_at_call 21; refine (zz_send sbt sb1 sb2 c k S1 S2 D E _ _ _ hc1 hk1 hTx hrd hwd HFh.out HOh.out).mono ?_; rintro e w7 ⟨ht, h1', h2', H1, H2, rfl, hXh, hs7⟩))
        have hs8 := hs6.trans (since_mono hTx.since hs6.size)
        have hs9 := hs8.trans (since_mono hs7 hs8.size)
        have HXh : Hid (Wire w7 ht h1' h2' c k H1 H2 D E) := hXh
        have HX2 : Hid (Wire w7 bt b1 b2 G M F1 F2 D E) := (HX.out.since (⟨hTx.since.os, hTx.since.tape, hTx.since.output, hTx.since.size, hTx.since.block⟩ : w5.Since w5.heap.size w6)).since hs7
        clear hTx hrd hwd hXh hs7 hs8 HX hs6 hs5' HRh HWh HFh HOh z2 z4
        go_wp2_with fail
        have hs6 : w.Since w.heap.size w7.drew := hs9.drew
        obtain ⟨g2, hg2⟩ : ∃ g2 : Nat, g2 = G - c := ⟨_, rfl⟩
        obtain ⟨m2, hm2⟩ : ∃ m2 : Nat, m2 = M - k := ⟨_, rfl⟩
        have HRh : Hid (∀ (w' : World) (ra' : Option Addr), w.Since w.heap.size w' → (0 < g2 → ra' = some ⟨rb, ro + c * 4, none⟩) → RdIn w' ra' rb (ro + c * 4) g2 (fun i => D (c + i))) := fun w' ra' hs ha => by rw [hg2] at ha ⊢; exact (hR.since hs).tail hcG ha
        have HWh : Hid (∀ (w' : World) (wa' : Option Addr), w.Since w.heap.size w' → (0 < m2 → wa' = some ⟨wb, wo + k * 6, none⟩) → WrIn w' wa' wb (wo + k * 6) m2 (fun i => E (k + i))) := fun w' wa' hs ha => by rw [hm2] at ha ⊢; exact (hW.since hs).tail hkM ha
        have HFh : Hid (∀ i, i < g2 → (D (c + i)).Fit) := fun i hi => hFit (c + i) (by omega)
        have HOh : Hid (OpW m2 (fun i => E (k + i))) := fun i hi => hOp (k + i) (by omega)
        have hc2 : g2 ≤ 1048576 := by omega
        have hk2 : m2 ≤ 1048576 := by omega
        obtain ⟨ra2, hra2⟩ : ∃ ra2, ra2 = (if Gc = c then ra else ra.map (·.add (c * 4))) := ⟨_, rfl⟩
        obtain ⟨wa2, hwa2⟩ : ∃ wa2, wa2 = (if Mc = k then wa else wa.map (·.add (k * 6))) := ⟨_, rfl⟩
        have hsl1 : ∀ w, (Instr.slice 39 (.slice ra G Gc) (some (.int .i64 (c : Int))) none none).run Try.prog w = .ok (.slice ra2 g2 (Gc - c)) w := fun w => by rw [hra2, hg2]; exact sl39 ra G Gc c hcG w
        have hsl2 : ∀ w, (Instr.slice 40 (.slice wa M Mc) (some (.int .i64 (k : Int))) none none).run Try.prog w = .ok (.slice wa2 m2 (Mc - k)) w := fun w => by rw [hwa2, hm2]; exact sl40 wa M Mc k hkM w
        have HRa2 : Hid (0 < g2 → ra2 = some ⟨rb, ro + c * 4, none⟩) := fun h => by rw [hra2]; exact sl_ra HRa.out hcG hGc (by omega)
        have HWa2 : Hid (0 < m2 → wa2 = some ⟨wb, wo + k * 6, none⟩) := fun h => by rw [hwa2]; exact sl_ra HWa.out hkM hMc (by omega)
        have HcG : Hid (c ≤ G ∧ g2 = G - c) := ⟨hcG, hg2⟩
        have HkM : Hid (k ≤ M ∧ m2 = M - k) := ⟨hkM, hm2⟩
        clear hra2 hwa2 h2 h4 hcG hkM hg2 hm2
        go_region_held3 (fun w' => True)
          (trivial)
          (first
            | (go_at_call 22; refine (build_txn _ rb (ro + c * 4) g2 _ (fun i => D (c + i)) _ wb (wo + k * 6) m2 _ (fun i => E (k + i)) _ hc2 hk2 HFh.out (HRh.out _ _ hs6 HRa2.out) (HWh.out _ _ hs6 HWa2.out)).mono ?_; rintro e w8 ⟨sb1, sb2, sbt, S1, S2, rfl, hTx, hrd, hwd⟩)
            | (go_at_call 21; refine (zz_send sbt sb1 sb2 g2 m2 S1 S2 (fun i => D (c + i)) (fun i => E (k + i)) _ _ _ hc2 hk2 hTx hrd hwd HFh.out HOh.out).mono ?_; rintro e w9 ⟨tt, t1, t2, T1, T2, rfl, hXt, hs10⟩))
        have hs8 := hs6.trans (since_mono hTx.since hs6.size)
        have hs11 := hs8.trans (since_mono hs10 hs8.size)
        have hTs : w7.Since w7.heap.size w8 := ⟨hTx.since.os, hTx.since.tape, hTx.since.output, hTx.since.size, hTx.since.block⟩
        have hX1 : Wire w9 bt b1 b2 G M F1 F2 D E := (HX2.out.since hTs).since hs10
        have hX2 : Wire w9 ht h1' h2' c k H1 H2 D E := (HXh.out.since hTs).since hs10
        have HX1 : Hid (Wire w9 bt b1 b2 G M F1 F2 D E) := hX1
        have HX3 : Hid (Wire w9 ht h1' h2' c k H1 H2 D E) := hX2
        have HX4 : Hid (Wire w9 tt t1 t2 g2 m2 T1 T2 (fun i => D (c + i)) (fun i => E (k + i))) := hXt
        have HS : Hid (w.Since w.heap.size w9) := hs11
        have HR9 : Hid (RdIn w9 ra rb ro G D) := hR.since hs11
        have HW9 : Hid (WrIn w9 wa wb wo M E) := hW.since hs11
        have HFit : Hid (∀ i, i < G → (D i).Fit) := hFit
        have HSW : Hid (SzW M E) := hSW
        have hcG := HcG.out.1
        have hkM := HkM.out.1
        have hg : (G : Int) - (c : Int) = (g2 : Int) := by have := HcG.out.2; omega
        have hm : (M : Int) - (k : Int) = (m2 : Int) := by have := HkM.out.2; omega
        have a0 := hX1.c0
        have a1 := hX1.c1
        have a2 := hX2.c0
        have a3 := hX2.c1
        have a4 := hXt.c0
        have a5 := hXt.c1
        clear hTx hrd hwd hXt hs10 hs8 hs6 HRh HWh HFh HOh HX2 HXh hsl1 hsl2 HRa2 HWa2 HRa HWa hs11 hTs hX1 hX2 hs9 hR hW hFit hSW hSR hTl hOp HZ
        go_wp2_with fail
        clear a0 a1 a2 a3 a4 a5 hm hg
        go_loopg [12] G (fun g n wr => ∃ (i : Nat), i ≤ G ∧ g = G - i ∧ n = .int .i64 i ∧ w9.Since w9.heap.size wr)
        case atStart => exact ⟨0, Nat.zero_le _, rfl, rfl, World.Since.refl _ _⟩
        case round =>
          obtain ⟨i, hi, rfl, rfl, hsw⟩ := hrel
          by_cases hiG : i < G
          · have hiz : (i : Int) < (G : Int) := by omega
            have hiz0 : (0 : Int) ≤ (i : Int) := by omega
            have hRw := HR9.out.since hsw
            obtain rfl := hRw.ra (by omega)
            obtain ⟨m, y0, y1, y2, hdp⟩ := (HX1.out.since hsw).rdAt hiG
            have x0 : wr.drew.cell? ⟨bt, 0, none⟩ = some (.slice (some ⟨b1, 0, none⟩) G G) := (HX1.out.since hsw).c0
            have k0 : wr.drew.cell? ⟨b1, i * 3, none⟩ = some (.string (D i).key) := y0
            have k1 : wr.drew.cell? ⟨b1, i * 3 + 1, none⟩ = some (.map m) := y1
            have k2 : wr.drew.cell? ⟨b1, i * 3 + 2, none⟩ = some (.string (hexS (D i).dig)) := y2
            have q0 : wr.drew.cell? ⟨rb, ro + i * 4, none⟩ = some (.string (D i).key) := hRw.c0 i hiG
            have q1 : wr.drew.cell? ⟨rb, ro + i * 4 + 1, none⟩ = some (.slice (D i).ida (D i).idl (D i).idc) := hRw.c1 i hiG
            have q2 : wr.drew.cell? ⟨rb, ro + i * 4 + 2, none⟩ = some (.slice (D i).ta (D i).tl (D i).tc) := hRw.c2 i hiG
            have q3 : wr.drew.cell? ⟨rb, ro + i * 4 + 3, none⟩ = some (.string (D i).dig) := hRw.c3 i hiG
            have hsd : wr.Since wr.heap.size wr.drew := (World.Since.refl _ _).drew
            have HI : Hid ((D i).In wr.drew ∧ (D i).Fit ∧ DepOK wr.drew (.map m) (D i)) := ⟨(hRw.inn i hiG).since hsd, HFit.out i hiG, hdp.since hsd⟩
            clear y0 y1 y2 hdp hRw hsd
            go_wp2_with fail
            go_region_held3 (fun w' => w'.cell? ⟨bt, 0, none⟩ = some (.slice (some ⟨b1, 0, none⟩) G G) ∧ w'.cell? ⟨b1, i * 3, none⟩ = some (.string (D i).key) ∧ w'.cell? ⟨b1, i * 3 + 1, none⟩ = some (.map m) ∧ w'.cell? ⟨b1, i * 3 + 2, none⟩ = some (.string (hexS (D i).dig)) ∧ w'.cell? ⟨rb, ro + i * 4, none⟩ = some (.string (D i).key) ∧ w'.cell? ⟨rb, ro + i * 4 + 1, none⟩ = some (.slice (D i).ida (D i).idl (D i).idc) ∧ w'.cell? ⟨rb, ro + i * 4 + 2, none⟩ = some (.slice (D i).ta (D i).tl (D i).tc) ∧ w'.cell? ⟨rb, ro + i * 4 + 3, none⟩ = some (.string (D i).dig))
              (first
                | exact ⟨cell_keep v6 x0, cell_keep v6 k0, cell_keep v6 k1, cell_keep v6 k2, cell_keep v6 q0, cell_keep v6 q1, cell_keep v6 q2, cell_keep v6 q3⟩
                | exact ⟨x0, k0, k1, k2, q0, q1, q2, q3⟩)
              (first | (go_at_call 23; refine (read_ok (D i) m _ HI.out.1 HI.out.2.1 HI.out.2.2).mono ?_; rintro e u6 ⟨rfl, v6⟩))
            have v6' : w9.Since w9.heap.size u6 := hsw.trans (since_mono (⟨v6.os, v6.tape, v6.output, v6.size, v6.block⟩ : wr.Since wr.heap.size u6) hsw.size)
            clear x0 k0 k1 k2 q0 q1 q2 q3 HI v6 hsw
            by_cases hic : i < c
            · have hicz : (i : Int) < (c : Int) := by omega
              obtain ⟨m', y0, y1, y2, hdp⟩ := (HX3.out.since v6').rdAt hic
              have x1 := (HX3.out.since v6').c0
              have l1 := cell_blk x1
              have l2 := cell_blk y0
              have DP : Hid (DepOK u6 (.map m') (D i)) := hdp
              clear hdp
              go_wp2_with fail
              have HA : ∃ A nb, A = u6.alloc (.cells #[.string (D i).key, .map m', .string (hexS (D i).dig)] 54) ∧ nb = u6.heap.size := ⟨_, _, rfl, rfl⟩
              obtain ⟨A, nb, EA, EN⟩ := HA
              rw [← EA, ← EN]
              have sA : u6.Since u6.heap.size A := by rw [EA]; exact alloc1 _ _
              have vA : w9.Since w9.heap.size A := v6'.trans (since_mono sA v6'.size)
              have hRw := HR9.out.since vA
              obtain ⟨m3, s0, s1, s2, hdp⟩ := (HX1.out.since vA).rdAt hiG
              have x0 : A.drew.cell? ⟨bt, 0, none⟩ = some (.slice (some ⟨b1, 0, none⟩) G G) := (HX1.out.since vA).c0
              have k0 : A.drew.cell? ⟨b1, i * 3, none⟩ = some (.string (D i).key) := s0
              have k1 : A.drew.cell? ⟨b1, i * 3 + 1, none⟩ = some (.map m3) := s1
              have k2 : A.drew.cell? ⟨b1, i * 3 + 2, none⟩ = some (.string (hexS (D i).dig)) := s2
              have p0 : A.drew.cell? ⟨nb, 0, none⟩ = some (.string (D i).key) := by rw [EA, EN]; exact (cell_of_row _ _ 0 _ _ _ (alloc_at _ _)).trans rfl
              have p1 : A.drew.cell? ⟨nb, 1, none⟩ = some (.map m') := by rw [EA, EN]; exact (cell_of_row _ _ 1 _ _ _ (alloc_at _ _)).trans rfl
              have p2 : A.drew.cell? ⟨nb, 2, none⟩ = some (.string (hexS (D i).dig)) := by rw [EA, EN]; exact (cell_of_row _ _ 2 _ _ _ (alloc_at _ _)).trans rfl
              have q0 : A.drew.cell? ⟨rb, ro + i * 4, none⟩ = some (.string (D i).key) := hRw.c0 i hiG
              have q1 : A.drew.cell? ⟨rb, ro + i * 4 + 1, none⟩ = some (.slice (D i).ida (D i).idl (D i).idc) := hRw.c1 i hiG
              have q2 : A.drew.cell? ⟨rb, ro + i * 4 + 2, none⟩ = some (.slice (D i).ta (D i).tl (D i).tc) := hRw.c2 i hiG
              have q3 : A.drew.cell? ⟨rb, ro + i * 4 + 3, none⟩ = some (.string (D i).dig) := hRw.c3 i hiG
              have sd : A.Since A.heap.size A.drew := (World.Since.refl _ _).drew
              have HI : Hid ((D i).In A.drew ∧ (D i).Fit ∧ DepOK A.drew (.map m3) (D i) ∧ DepOK A.drew (.map m') (D i)) := ⟨(hRw.inn i hiG).since sd, HFit.out i hiG, hdp.since sd, (DP.out.since sA).since sd⟩
              clear EA EN s0 s1 s2 hdp hRw sd DP sA v6' x1 y0 y1 y2 l1 l2
              go_region_held3 (fun w' => w'.cell? ⟨bt, 0, none⟩ = some (.slice (some ⟨b1, 0, none⟩) G G) ∧ w'.cell? ⟨b1, i * 3, none⟩ = some (.string (D i).key) ∧ w'.cell? ⟨b1, i * 3 + 1, none⟩ = some (.map m3) ∧ w'.cell? ⟨b1, i * 3 + 2, none⟩ = some (.string (hexS (D i).dig)) ∧ w'.cell? ⟨nb, 0, none⟩ = some (.string (D i).key) ∧ w'.cell? ⟨nb, 1, none⟩ = some (.map m') ∧ w'.cell? ⟨nb, 2, none⟩ = some (.string (hexS (D i).dig)) ∧ w'.cell? ⟨rb, ro + i * 4, none⟩ = some (.string (D i).key) ∧ w'.cell? ⟨rb, ro + i * 4 + 1, none⟩ = some (.slice (D i).ida (D i).idl (D i).idc) ∧ w'.cell? ⟨rb, ro + i * 4 + 2, none⟩ = some (.slice (D i).ta (D i).tl (D i).tc) ∧ w'.cell? ⟨rb, ro + i * 4 + 3, none⟩ = some (.string (D i).dig))
                (first
                  | exact ⟨cell_keep v7 x0, cell_keep v7 k0, cell_keep v7 k1, cell_keep v7 k2, cell_keep v7 p0, cell_keep v7 p1, cell_keep v7 p2, cell_keep v7 q0, cell_keep v7 q1, cell_keep v7 q2, cell_keep v7 q3⟩
                  | exact ⟨x0, k0, k1, k2, p0, p1, p2, q0, q1, q2, q3⟩)
                (first | (go_at_call 24; refine (same_read (D i) m3 m' _ HI.out.1 HI.out.2.1 HI.out.2.2.1 HI.out.2.2.2).mono ?_; rintro e u7 ⟨rfl, v7⟩))
              have v7' : w9.Since w9.heap.size u7 := vA.trans (since_mono (⟨v7.os, v7.tape, v7.output, v7.size, v7.block⟩ : A.Since A.heap.size u7) vA.size)
              clear x0 k0 k1 k2 p0 p1 p2 q0 q1 q2 q3 HI v7 vA
              go_wp2_with fail
              go_roundg (G - (i + 1))
              case measure => go_light; omega
              case rel => go_light; exact ⟨i + 1, by omega, rfl, by go_num, v7'⟩
            · have hicz : decide ((i : Int) < (c : Int)) = false := by simp; omega
              obtain ⟨q, hq⟩ : ∃ q, i = c + q := ⟨i - c, by omega⟩
              have hqz : (i : Int) - (c : Int) = (q : Int) := by omega
              have hql : (q : Int) < (g2 : Int) := by have := HcG.out.2; omega
              have hql0 : (0 : Int) ≤ (q : Int) := by omega
              obtain ⟨m', y0, y1, y2, hdp⟩ := (HX4.out.since v6').rdAt (i := q) (by omega)
              simp only [← hq] at y0 y1 y2 hdp
              have x1 := (HX4.out.since v6').c0
              have l1 := cell_blk x1
              have l2 := cell_blk y0
              have DP : Hid (DepOK u6 (.map m') (D i)) := hdp
              have HQ : Hid (i = c + q) := hq
              have HC : Hid (¬ i < c) := hic
              clear hdp hq hic
              go_wp2_with fail
              clear hqz hql hql0
              have HA : ∃ A nb, A = u6.alloc (.cells #[.string (D i).key, .map m', .string (hexS (D i).dig)] 54) ∧ nb = u6.heap.size := ⟨_, _, rfl, rfl⟩
              obtain ⟨A, nb, EA, EN⟩ := HA
              rw [← EA, ← EN]
              have sA : u6.Since u6.heap.size A := by rw [EA]; exact alloc1 _ _
              have vA : w9.Since w9.heap.size A := v6'.trans (since_mono sA v6'.size)
              have hRw := HR9.out.since vA
              obtain ⟨m3, s0, s1, s2, hdp⟩ := (HX1.out.since vA).rdAt hiG
              have x0 : A.drew.cell? ⟨bt, 0, none⟩ = some (.slice (some ⟨b1, 0, none⟩) G G) := (HX1.out.since vA).c0
              have k0 : A.drew.cell? ⟨b1, i * 3, none⟩ = some (.string (D i).key) := s0
              have k1 : A.drew.cell? ⟨b1, i * 3 + 1, none⟩ = some (.map m3) := s1
              have k2 : A.drew.cell? ⟨b1, i * 3 + 2, none⟩ = some (.string (hexS (D i).dig)) := s2
              have p0 : A.drew.cell? ⟨nb, 0, none⟩ = some (.string (D i).key) := by rw [EA, EN]; exact (cell_of_row _ _ 0 _ _ _ (alloc_at _ _)).trans rfl
              have p1 : A.drew.cell? ⟨nb, 1, none⟩ = some (.map m') := by rw [EA, EN]; exact (cell_of_row _ _ 1 _ _ _ (alloc_at _ _)).trans rfl
              have p2 : A.drew.cell? ⟨nb, 2, none⟩ = some (.string (hexS (D i).dig)) := by rw [EA, EN]; exact (cell_of_row _ _ 2 _ _ _ (alloc_at _ _)).trans rfl
              have q0 : A.drew.cell? ⟨rb, ro + i * 4, none⟩ = some (.string (D i).key) := hRw.c0 i hiG
              have q1 : A.drew.cell? ⟨rb, ro + i * 4 + 1, none⟩ = some (.slice (D i).ida (D i).idl (D i).idc) := hRw.c1 i hiG
              have q2 : A.drew.cell? ⟨rb, ro + i * 4 + 2, none⟩ = some (.slice (D i).ta (D i).tl (D i).tc) := hRw.c2 i hiG
              have q3 : A.drew.cell? ⟨rb, ro + i * 4 + 3, none⟩ = some (.string (D i).dig) := hRw.c3 i hiG
              have sd : A.Since A.heap.size A.drew := (World.Since.refl _ _).drew
              have HI : Hid ((D i).In A.drew ∧ (D i).Fit ∧ DepOK A.drew (.map m3) (D i) ∧ DepOK A.drew (.map m') (D i)) := ⟨(hRw.inn i hiG).since sd, HFit.out i hiG, hdp.since sd, (DP.out.since sA).since sd⟩
              clear EA EN s0 s1 s2 hdp hRw sd DP sA v6' x1 y0 y1 y2 l1 l2
              go_region_held3 (fun w' => w'.cell? ⟨bt, 0, none⟩ = some (.slice (some ⟨b1, 0, none⟩) G G) ∧ w'.cell? ⟨b1, i * 3, none⟩ = some (.string (D i).key) ∧ w'.cell? ⟨b1, i * 3 + 1, none⟩ = some (.map m3) ∧ w'.cell? ⟨b1, i * 3 + 2, none⟩ = some (.string (hexS (D i).dig)) ∧ w'.cell? ⟨nb, 0, none⟩ = some (.string (D i).key) ∧ w'.cell? ⟨nb, 1, none⟩ = some (.map m') ∧ w'.cell? ⟨nb, 2, none⟩ = some (.string (hexS (D i).dig)) ∧ w'.cell? ⟨rb, ro + i * 4, none⟩ = some (.string (D i).key) ∧ w'.cell? ⟨rb, ro + i * 4 + 1, none⟩ = some (.slice (D i).ida (D i).idl (D i).idc) ∧ w'.cell? ⟨rb, ro + i * 4 + 2, none⟩ = some (.slice (D i).ta (D i).tl (D i).tc) ∧ w'.cell? ⟨rb, ro + i * 4 + 3, none⟩ = some (.string (D i).dig))
                (first
                  | exact ⟨cell_keep v7 x0, cell_keep v7 k0, cell_keep v7 k1, cell_keep v7 k2, cell_keep v7 p0, cell_keep v7 p1, cell_keep v7 p2, cell_keep v7 q0, cell_keep v7 q1, cell_keep v7 q2, cell_keep v7 q3⟩
                  | exact ⟨x0, k0, k1, k2, p0, p1, p2, q0, q1, q2, q3⟩)
                (first | (go_at_call 24; refine (same_read (D i) m3 m' _ HI.out.1 HI.out.2.1 HI.out.2.2.1 HI.out.2.2.2).mono ?_; rintro e u7 ⟨rfl, v7⟩))
              have v7' : w9.Since w9.heap.size u7 := vA.trans (since_mono (⟨v7.os, v7.tape, v7.output, v7.size, v7.block⟩ : A.Since A.heap.size u7) vA.size)
              clear x0 k0 k1 k2 p0 p1 p2 q0 q1 q2 q3 HI v7 vA
              go_wp2_with fail
              go_roundg (G - (i + 1))
              case measure => go_light; omega
              case rel => go_light; exact ⟨i + 1, by omega, rfl, by go_num, v7'⟩
          · obtain rfl : G = i := by omega
            have hm : (M : Int) - (k : Int) = (m2 : Int) := by have := HkM.out.2; omega
            go_wp2_with fail
            clear hm
            go_loopg [14] M (fun g n wr => ∃ (j : Nat), j ≤ M ∧ g = M - j ∧ n = .int .i64 j ∧ w9.Since w9.heap.size wr)
            case atStart => exact ⟨0, Nat.zero_le _, rfl, rfl, hsw⟩
            case round =>
              clear hsw
              obtain ⟨j, hj, rfl, rfl, hsw⟩ := hrel
              by_cases hjM : j < M
              · have hjz : (j : Int) < (M : Int) := by omega
                have hjz0 : (0 : Int) ≤ (j : Int) := by omega
                have hWw := HW9.out.since hsw
                obtain rfl := hWw.wa (by omega)
                obtain ⟨os, va, vn, vc, dz, pa, y0, y1, y2, y3, y4, hwo⟩ := (HX1.out.since hsw).wrAt hjM
                have x0 : wr.drew.cell? ⟨bt, 1, none⟩ = some (.slice (some ⟨b2, 0, none⟩) M M) := (HX1.out.since hsw).c1
                have k0 : wr.drew.cell? ⟨b2, j * 5, none⟩ = some (.string os) := y0
                have k1 : wr.drew.cell? ⟨b2, j * 5 + 1, none⟩ = some (.string (E j).key) := y1
                have k2 : wr.drew.cell? ⟨b2, j * 5 + 2, none⟩ = some (.slice va vn vc) := y2
                have k3 : wr.drew.cell? ⟨b2, j * 5 + 3, none⟩ = some (.int .i64 dz) := y3
                have k4 : wr.drew.cell? ⟨b2, j * 5 + 4, none⟩ = some (.pointer pa) := y4
                have q0 : wr.drew.cell? ⟨wb, wo + j * 6, none⟩ = some (.int .u8 (E j).op) := hWw.c0 j hjM
                have q1 : wr.drew.cell? ⟨wb, wo + j * 6 + 1, none⟩ = some (.string (E j).key) := hWw.c1 j hjM
                have q2 : wr.drew.cell? ⟨wb, wo + j * 6 + 2, none⟩ = some (.string (E j).val) := hWw.c2 j hjM
                have q3 : wr.drew.cell? ⟨wb, wo + j * 6 + 3, none⟩ = some (.int .i64 (E j).dlt) := hWw.c3 j hjM
                have q4 : wr.drew.cell? ⟨wb, wo + j * 6 + 4, none⟩ = some (.bool (E j).wd) := hWw.c4 j hjM
                have q5 : wr.drew.cell? ⟨wb, wo + j * 6 + 5, none⟩ = some (.int .i64 (E j).wt) := hWw.c5 j hjM
                have HI : Hid (WOut wr.drew (E j) (.string os) (.slice va vn vc) (.int .i64 dz) (.pointer pa)) := hwo.since ((World.Since.refl _ _).drew)
                have HV : Hid ((E j).val.size ≤ 1048576) := (HSW.out j hjM).2
                clear y0 y1 y2 y3 y4 hwo hWw
                go_wp2_with fail
                go_region_held3 (fun w' => w'.cell? ⟨bt, 1, none⟩ = some (.slice (some ⟨b2, 0, none⟩) M M) ∧ w'.cell? ⟨b2, j * 5, none⟩ = some (.string os) ∧ w'.cell? ⟨b2, j * 5 + 1, none⟩ = some (.string (E j).key) ∧ w'.cell? ⟨b2, j * 5 + 2, none⟩ = some (.slice va vn vc) ∧ w'.cell? ⟨b2, j * 5 + 3, none⟩ = some (.int .i64 dz) ∧ w'.cell? ⟨b2, j * 5 + 4, none⟩ = some (.pointer pa) ∧ w'.cell? ⟨wb, wo + j * 6, none⟩ = some (.int .u8 (E j).op) ∧ w'.cell? ⟨wb, wo + j * 6 + 1, none⟩ = some (.string (E j).key) ∧ w'.cell? ⟨wb, wo + j * 6 + 2, none⟩ = some (.string (E j).val) ∧ w'.cell? ⟨wb, wo + j * 6 + 3, none⟩ = some (.int .i64 (E j).dlt) ∧ w'.cell? ⟨wb, wo + j * 6 + 4, none⟩ = some (.bool (E j).wd) ∧ w'.cell? ⟨wb, wo + j * 6 + 5, none⟩ = some (.int .i64 (E j).wt))
                  (first
                    | exact ⟨cell_keep v6 x0, cell_keep v6 k0, cell_keep v6 k1, cell_keep v6 k2, cell_keep v6 k3, cell_keep v6 k4, cell_keep v6 q0, cell_keep v6 q1, cell_keep v6 q2, cell_keep v6 q3, cell_keep v6 q4, cell_keep v6 q5⟩
                    | exact ⟨x0, k0, k1, k2, k3, k4, q0, q1, q2, q3, q4, q5⟩)
                  (first | (go_at_call 25; refine (write_ok (E j) _ _ _ _ _ HI.out HV.out).mono ?_; rintro e u6 ⟨rfl, v6⟩))
                have v6' : w9.Since w9.heap.size u6 := hsw.trans (since_mono (⟨v6.os, v6.tape, v6.output, v6.size, v6.block⟩ : wr.Since wr.heap.size u6) hsw.size)
                clear x0 k0 k1 k2 k3 k4 q0 q1 q2 q3 q4 q5 HI HV v6 hsw
                by_cases hjk : j < k
                · have hjkz : (j : Int) < (k : Int) := by omega
                  obtain ⟨os', va', vn', vc', dz', pa', y0, y1, y2, y3, y4, hwo⟩ := (HX3.out.since v6').wrAt hjk
                  have x1 := (HX3.out.since v6').c1
                  have l1 := cell_blk x1
                  have l2 := cell_blk y0
                  have DP : Hid (WOut u6 (E j) (.string os') (.slice va' vn' vc') (.int .i64 dz') (.pointer pa')) := hwo
                  clear hwo
                  go_wp2_with fail
                  have HA : ∃ A nb, A = u6.alloc (.cells #[.string os', .string (E j).key, .slice va' vn' vc', .int .i64 dz', .pointer pa'] 62) ∧ nb = u6.heap.size := ⟨_, _, rfl, rfl⟩
                  obtain ⟨A, nb, EA, EN⟩ := HA
                  rw [← EA, ← EN]
                  have sA : u6.Since u6.heap.size A := by rw [EA]; exact alloc1 _ _
                  have vA : w9.Since w9.heap.size A := v6'.trans (since_mono sA v6'.size)
                  obtain ⟨os, va, vn, vc, dz, pa, s0, s1, s2, s3, s4, hwo⟩ := (HX1.out.since vA).wrAt hjM
                  have x0 : A.drew.cell? ⟨bt, 1, none⟩ = some (.slice (some ⟨b2, 0, none⟩) M M) := (HX1.out.since vA).c1
                  have k0 : A.drew.cell? ⟨b2, j * 5, none⟩ = some (.string os) := s0
                  have k1 : A.drew.cell? ⟨b2, j * 5 + 1, none⟩ = some (.string (E j).key) := s1
                  have k2 : A.drew.cell? ⟨b2, j * 5 + 2, none⟩ = some (.slice va vn vc) := s2
                  have k3 : A.drew.cell? ⟨b2, j * 5 + 3, none⟩ = some (.int .i64 dz) := s3
                  have k4 : A.drew.cell? ⟨b2, j * 5 + 4, none⟩ = some (.pointer pa) := s4
                  have p0 : A.drew.cell? ⟨nb, 0, none⟩ = some (.string os') := by rw [EA, EN]; exact (cell_of_row _ _ 0 _ _ _ (alloc_at _ _)).trans rfl
                  have p1 : A.drew.cell? ⟨nb, 1, none⟩ = some (.string (E j).key) := by rw [EA, EN]; exact (cell_of_row _ _ 1 _ _ _ (alloc_at _ _)).trans rfl
                  have p2 : A.drew.cell? ⟨nb, 2, none⟩ = some (.slice va' vn' vc') := by rw [EA, EN]; exact (cell_of_row _ _ 2 _ _ _ (alloc_at _ _)).trans rfl
                  have p3 : A.drew.cell? ⟨nb, 3, none⟩ = some (.int .i64 dz') := by rw [EA, EN]; exact (cell_of_row _ _ 3 _ _ _ (alloc_at _ _)).trans rfl
                  have p4 : A.drew.cell? ⟨nb, 4, none⟩ = some (.pointer pa') := by rw [EA, EN]; exact (cell_of_row _ _ 4 _ _ _ (alloc_at _ _)).trans rfl
                  have sd : A.Since A.heap.size A.drew := (World.Since.refl _ _).drew
                  have HI : Hid (WOut A.drew (E j) (.string os) (.slice va vn vc) (.int .i64 dz) (.pointer pa) ∧ WOut A.drew (E j) (.string os') (.slice va' vn' vc') (.int .i64 dz') (.pointer pa')) := ⟨hwo.since sd, (DP.out.since sA).since sd⟩
                  have HV : Hid ((E j).val.size ≤ 1048576) := (HSW.out j hjM).2
                  clear EA EN s0 s1 s2 s3 s4 hwo sd DP sA v6' x1 y0 y1 y2 y3 y4 l1 l2
                  go_region_held3 (fun w' => w'.cell? ⟨bt, 1, none⟩ = some (.slice (some ⟨b2, 0, none⟩) M M) ∧ w'.cell? ⟨b2, j * 5, none⟩ = some (.string os) ∧ w'.cell? ⟨b2, j * 5 + 1, none⟩ = some (.string (E j).key) ∧ w'.cell? ⟨b2, j * 5 + 2, none⟩ = some (.slice va vn vc) ∧ w'.cell? ⟨b2, j * 5 + 3, none⟩ = some (.int .i64 dz) ∧ w'.cell? ⟨b2, j * 5 + 4, none⟩ = some (.pointer pa) ∧ w'.cell? ⟨nb, 0, none⟩ = some (.string os') ∧ w'.cell? ⟨nb, 1, none⟩ = some (.string (E j).key) ∧ w'.cell? ⟨nb, 2, none⟩ = some (.slice va' vn' vc') ∧ w'.cell? ⟨nb, 3, none⟩ = some (.int .i64 dz') ∧ w'.cell? ⟨nb, 4, none⟩ = some (.pointer pa'))
                    (first
                      | exact ⟨cell_keep v7 x0, cell_keep v7 k0, cell_keep v7 k1, cell_keep v7 k2, cell_keep v7 k3, cell_keep v7 k4, cell_keep v7 p0, cell_keep v7 p1, cell_keep v7 p2, cell_keep v7 p3, cell_keep v7 p4⟩
                      | exact ⟨x0, k0, k1, k2, k3, k4, p0, p1, p2, p3, p4⟩)
                    (first | (go_at_call 26; refine (same_write (E j) _ _ _ _ _ _ _ _ _ HI.out.1 HI.out.2 HV.out).mono ?_; rintro e u7 ⟨rfl, v7⟩))
                  have v7' : w9.Since w9.heap.size u7 := vA.trans (since_mono (⟨v7.os, v7.tape, v7.output, v7.size, v7.block⟩ : A.Since A.heap.size u7) vA.size)
                  clear x0 k0 k1 k2 k3 k4 p0 p1 p2 p3 p4 HI HV v7 vA
                  go_wp2_with fail
                  go_roundg (M - (j + 1))
                  case measure => go_light; omega
                  case rel => go_light; exact ⟨j + 1, by omega, rfl, by go_num, v7'⟩
                · have hjkz : decide ((j : Int) < (k : Int)) = false := by simp; omega
                  obtain ⟨q, hq⟩ : ∃ q, j = k + q := ⟨j - k, by omega⟩
                  have hqz : (j : Int) - (k : Int) = (q : Int) := by omega
                  have hql : (q : Int) < (m2 : Int) := by have := HkM.out.2; omega
                  have hql0 : (0 : Int) ≤ (q : Int) := by omega
                  obtain ⟨os', va', vn', vc', dz', pa', y0, y1, y2, y3, y4, hwo⟩ := (HX4.out.since v6').wrAt (i := q) (by omega)
                  simp only [← hq] at y0 y1 y2 y3 y4 hwo
                  have x1 := (HX4.out.since v6').c1
                  have l1 := cell_blk x1
                  have l2 := cell_blk y0
                  have DP : Hid (WOut u6 (E j) (.string os') (.slice va' vn' vc') (.int .i64 dz') (.pointer pa')) := hwo
                  have HC : Hid (¬ j < k) := hjk
                  clear hwo hq hjk
                  go_wp2_with fail
                  clear hqz hql hql0
                  have HA : ∃ A nb, A = u6.alloc (.cells #[.string os', .string (E j).key, .slice va' vn' vc', .int .i64 dz', .pointer pa'] 62) ∧ nb = u6.heap.size := ⟨_, _, rfl, rfl⟩
                  obtain ⟨A, nb, EA, EN⟩ := HA
                  rw [← EA, ← EN]
                  have sA : u6.Since u6.heap.size A := by rw [EA]; exact alloc1 _ _
                  have vA : w9.Since w9.heap.size A := v6'.trans (since_mono sA v6'.size)
                  obtain ⟨os, va, vn, vc, dz, pa, s0, s1, s2, s3, s4, hwo⟩ := (HX1.out.since vA).wrAt hjM
                  have x0 : A.drew.cell? ⟨bt, 1, none⟩ = some (.slice (some ⟨b2, 0, none⟩) M M) := (HX1.out.since vA).c1
                  have k0 : A.drew.cell? ⟨b2, j * 5, none⟩ = some (.string os) := s0
                  have k1 : A.drew.cell? ⟨b2, j * 5 + 1, none⟩ = some (.string (E j).key) := s1
                  have k2 : A.drew.cell? ⟨b2, j * 5 + 2, none⟩ = some (.slice va vn vc) := s2
                  have k3 : A.drew.cell? ⟨b2, j * 5 + 3, none⟩ = some (.int .i64 dz) := s3
                  have k4 : A.drew.cell? ⟨b2, j * 5 + 4, none⟩ = some (.pointer pa) := s4
                  have p0 : A.drew.cell? ⟨nb, 0, none⟩ = some (.string os') := by rw [EA, EN]; exact (cell_of_row _ _ 0 _ _ _ (alloc_at _ _)).trans rfl
                  have p1 : A.drew.cell? ⟨nb, 1, none⟩ = some (.string (E j).key) := by rw [EA, EN]; exact (cell_of_row _ _ 1 _ _ _ (alloc_at _ _)).trans rfl
                  have p2 : A.drew.cell? ⟨nb, 2, none⟩ = some (.slice va' vn' vc') := by rw [EA, EN]; exact (cell_of_row _ _ 2 _ _ _ (alloc_at _ _)).trans rfl
                  have p3 : A.drew.cell? ⟨nb, 3, none⟩ = some (.int .i64 dz') := by rw [EA, EN]; exact (cell_of_row _ _ 3 _ _ _ (alloc_at _ _)).trans rfl
                  have p4 : A.drew.cell? ⟨nb, 4, none⟩ = some (.pointer pa') := by rw [EA, EN]; exact (cell_of_row _ _ 4 _ _ _ (alloc_at _ _)).trans rfl
                  have sd : A.Since A.heap.size A.drew := (World.Since.refl _ _).drew
                  have HI : Hid (WOut A.drew (E j) (.string os) (.slice va vn vc) (.int .i64 dz) (.pointer pa) ∧ WOut A.drew (E j) (.string os') (.slice va' vn' vc') (.int .i64 dz') (.pointer pa')) := ⟨hwo.since sd, (DP.out.since sA).since sd⟩
                  have HV : Hid ((E j).val.size ≤ 1048576) := (HSW.out j hjM).2
                  clear EA EN s0 s1 s2 s3 s4 hwo sd DP sA v6' x1 y0 y1 y2 y3 y4 l1 l2
                  go_region_held3 (fun w' => w'.cell? ⟨bt, 1, none⟩ = some (.slice (some ⟨b2, 0, none⟩) M M) ∧ w'.cell? ⟨b2, j * 5, none⟩ = some (.string os) ∧ w'.cell? ⟨b2, j * 5 + 1, none⟩ = some (.string (E j).key) ∧ w'.cell? ⟨b2, j * 5 + 2, none⟩ = some (.slice va vn vc) ∧ w'.cell? ⟨b2, j * 5 + 3, none⟩ = some (.int .i64 dz) ∧ w'.cell? ⟨b2, j * 5 + 4, none⟩ = some (.pointer pa) ∧ w'.cell? ⟨nb, 0, none⟩ = some (.string os') ∧ w'.cell? ⟨nb, 1, none⟩ = some (.string (E j).key) ∧ w'.cell? ⟨nb, 2, none⟩ = some (.slice va' vn' vc') ∧ w'.cell? ⟨nb, 3, none⟩ = some (.int .i64 dz') ∧ w'.cell? ⟨nb, 4, none⟩ = some (.pointer pa'))
                    (first
                      | exact ⟨cell_keep v7 x0, cell_keep v7 k0, cell_keep v7 k1, cell_keep v7 k2, cell_keep v7 k3, cell_keep v7 k4, cell_keep v7 p0, cell_keep v7 p1, cell_keep v7 p2, cell_keep v7 p3, cell_keep v7 p4⟩
                      | exact ⟨x0, k0, k1, k2, k3, k4, p0, p1, p2, p3, p4⟩)
                    (first | (go_at_call 26; refine (same_write (E j) _ _ _ _ _ _ _ _ _ HI.out.1 HI.out.2 HV.out).mono ?_; rintro e u7 ⟨rfl, v7⟩))
                  have v7' : w9.Since w9.heap.size u7 := vA.trans (since_mono (⟨v7.os, v7.tape, v7.output, v7.size, v7.block⟩ : A.Since A.heap.size u7) vA.size)
                  clear x0 k0 k1 k2 k3 k4 p0 p1 p2 p3 p4 HI HV v7 vA
                  go_wp2_with fail
                  go_roundg (M - (j + 1))
                  case measure => go_light; omega
                  case rel => go_light; exact ⟨j + 1, by omega, rfl, by go_num, v7'⟩
              · obtain rfl : M = j := by omega
                go_wp2_with fail
                go_ret
                exact ⟨rfl, HS.out.trans (since_mono hsw HS.out.size)⟩
    · have hbad : decide (cr < 0) = true ∨ (decide (cr < 0) = false ∧ decide ((G : Int) < cr) = true) ∨ (decide (cr < 0) = false ∧ decide ((G : Int) < cr) = false ∧ decide (cw < 0) = true) ∨ (decide (cr < 0) = false ∧ decide ((G : Int) < cr) = false ∧ decide (cw < 0) = false ∧ decide ((M : Int) < cw) = true) := by
        simp only [decide_eq_true_eq, decide_eq_false_iff_not]
        omega
      rcases hbad with h1 | ⟨h1, h2⟩ | ⟨h1, h2, h3⟩ | ⟨h1, h2, h3, h4⟩
      · go_wp2_with fail
        go_ret
        exact ⟨rfl, hs2⟩
      · go_wp2_with fail
        go_ret
        exact ⟨rfl, hs2⟩
      · go_wp2_with fail
        go_ret
        exact ⟨rfl, hs2⟩
      · go_wp2_with fail
        go_ret
        exact ⟨rfl, hs2⟩
end Go.Proofs.Qxb6618655a
