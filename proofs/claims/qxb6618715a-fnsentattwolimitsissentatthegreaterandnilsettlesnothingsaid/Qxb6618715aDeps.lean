/-
  precedent: zzBytes_.. (23), zzDepsBytes (24), zzCopyDeps (25), zzDepsMap (26), zzSameDeps (28).
-/
import Derived.Test.Qxb6618715aBelow
namespace Go.Proofs.Qxb6618715a
open Go.RowKit
set_option linter.unusedVariables false

/-- The counts as they came in: node, run, count. -/
structure DIn (w : World) (ga : Option Addr) (gb go G : Nat) (N : Nat → ByteArray) (R V : Nat → Int) : Prop where
  ga : 0 < G → ga = some ⟨gb, go, none⟩
  c0 : ∀ i, i < G → w.cell? ⟨gb, go + i * 3, none⟩ = some (.string (N i))
  c1 : ∀ i, i < G → w.cell? ⟨gb, go + i * 3 + 1, none⟩ = some (.int .u64 (R i))
  c2 : ∀ i, i < G → w.cell? ⟨gb, go + i * 3 + 2, none⟩ = some (.int .u64 (V i))

theorem DIn.since {w w' : World} {ga : Option Addr} {gb go G : Nat} {N : Nat → ByteArray} {R V : Nat → Int} (h : DIn w ga gb go G N R V) (hs : w.Since w.heap.size w') : DIn w' ga gb go G N R V :=
  ⟨h.ga, fun i hi => cell_keep hs (h.c0 i hi), fun i hi => cell_keep hs (h.c1 i hi), fun i hi => cell_keep hs (h.c2 i hi)⟩

structure Fits (nd G : Nat) (N : Nat → ByteArray) (k : Nat) : Prop where
  nd : nd ≤ 1048576
  g : G ≤ 1048576
  k : ∀ r, r < k → (N r).size ≤ 1048576

theorem Fits.snoc {nd G : Nat} {N : Nat → ByteArray} {r : Nat} (h : Fits nd G N r) (hk : (N r).size ≤ 1048576) : Fits nd G N (r + 1) := by
  refine ⟨h.nd, h.g, fun j hj => ?_⟩
  by_cases e : j = r
  · subst e; exact hk
  · exact h.k j (by omega)

def BytesPost (nd G : Nat) (N : Nat → ByteArray) (w : World) (e : Ending) (w' : World) : Prop := (∃ b, e = .returned (.bool b) ∧ (b = true → Fits nd G N G)) ∧ w' = w

set_option maxHeartbeats 1000000 in
theorem bytes_any (node : ByteArray) (run seq : Int) (p : Bool) (ga : Option Addr) (gb go G Gc : Nat) (N : Nat → ByteArray) (R V : Nat → Int) (a b : Int) (w : World) (hnd : node.size ≤ maxLen) (hG : G ≤ maxLen) (hN : ∀ i, i < G → (N i).size ≤ maxLen) (hD : DIn w ga gb go G N R V) :
    Calls Try.prog 23 #[.string node, .int .u64 run, .int .u64 seq, .bool p, .slice ga G Gc, .int .u64 a, .int .u64 b] w (BytesPost node.size G N w) := by
  unfold maxLen at hnd hG hN
  go_enter Try.func23, Try.ntmps23
  by_cases h1 : (1048576 : Int) < (node.size : Int)
  · go_wp2_with fail
    go_ret
    exact ⟨⟨_, rfl, fun h => by cases h⟩, rfl⟩
  by_cases h2 : (1048576 : Int) < (G : Int)
  · go_wp2_with fail
    go_ret
    exact ⟨⟨_, rfl, fun h => by cases h⟩, rfl⟩
  by_cases h3 : (1048576 : Int) < (node.size : Int) + (G : Int)
  · go_wp2_with fail
    go_ret
    exact ⟨⟨_, rfl, fun h => by cases h⟩, rfl⟩
  go_wp2_with fail
  go_loopg [15, 16] G (fun g n i wr => w = wr ∧ ∃ (r : Nat) (z : Int), r ≤ G ∧ g = G - r ∧ i = .int .i64 r ∧ n = .int .i64 z ∧ 0 ≤ z ∧ z ≤ 1048576 ∧ Fits node.size G N r)
  case atStart => go_light; exact ⟨rfl, 0, _, Nat.zero_le _, rfl, rfl, rfl, by omega, by omega, ⟨by omega, by omega, fun r hr => by omega⟩⟩
  case round =>
    obtain ⟨rfl, r, z, hr, rfl, rfl, rfl, hz0, hz1, hft⟩ := hrel
    by_cases hrG : r < G
    · obtain rfl := hD.ga (by omega)
      have hrz : (r : Int) < (G : Int) := by omega
      have hKr := hN r hrG
      have g0 := hD.c0 r hrG
      by_cases q2 : (1048576 : Int) < ((N r).size : Int)
      · go_wp2_with fail
        go_ret
        exact ⟨⟨_, rfl, fun h => by cases h⟩, rfl⟩
      · by_cases q3 : (1048576 : Int) < z + ((N r).size : Int)
        · go_wp2_with fail
          go_ret
          exact ⟨⟨_, rfl, fun h => by cases h⟩, rfl⟩
        · go_wp2_with fail
          go_roundg (G - (r + 1))
          case measure => go_light; omega
          case rel => go_light; exact ⟨rfl, r + 1, _, by omega, rfl, by go_num, rfl, by omega, by omega, hft.snoc (by omega)⟩
    · have d3 : decide ((r : Int) < (G : Int)) = false := by simp; omega
      obtain rfl : r = G := by omega
      go_wp2_with fail
      go_ret
      exact ⟨⟨_, rfl, fun _ => hft⟩, rfl⟩

set_option maxHeartbeats 1000000 in
theorem deps_bytes (ga : Option Addr) (gb go G Gc : Nat) (N : Nat → ByteArray) (R V : Nat → Int) (lim : Int) (w : World) (hl0 : 0 ≤ lim) (hl1 : lim ≤ 1048576) (hG : G ≤ 1048576) (hN : ∀ i, i < G → (N i).size ≤ 1048576) (hD : DIn w ga gb go G N R V) :
    Calls Try.prog 24 #[.slice ga G Gc, .int .i64 lim] w fun e w' => (∃ z, e = .returned (.int .i64 z)) ∧ w' = w := by
  go_enter Try.func24, Try.ntmps24
  have hq : Int.tdiv lim 40 = lim / 40 := Int.tdiv_eq_ediv_of_nonneg hl0
  by_cases h1 : lim / 40 < (G : Int)
  · go_wp2_with fail
    go_ret
    exact ⟨⟨_, rfl⟩, rfl⟩
  go_wp2_with fail
  go_loopg [5, 6] G (fun g n i wr => w = wr ∧ ∃ (r : Nat) (z : Int), r ≤ G ∧ g = G - r ∧ i = .int .i64 r ∧ n = .int .i64 z ∧ 0 ≤ z ∧ z ≤ lim)
  case atStart => go_light; exact ⟨rfl, 0, _, Nat.zero_le _, rfl, rfl, rfl, by omega, by omega⟩
  case round =>
    obtain ⟨rfl, r, z, hr, rfl, rfl, rfl, hz0, hz1⟩ := hrel
    clear hq h1
    by_cases hrG : r < G
    · obtain rfl := hD.ga (by omega)
      have hrz : (r : Int) < (G : Int) := by omega
      have hKr := hN r hrG
      have g0 := hD.c0 r hrG
      by_cases q2 : lim - z < ((N r).size : Int)
      · go_wp2_with fail
        go_ret
        exact ⟨⟨_, rfl⟩, rfl⟩
      · go_wp2_with fail
        go_roundg (G - (r + 1))
        case measure => go_light; omega
        case rel => go_light; exact ⟨rfl, r + 1, _, by omega, rfl, by go_num, rfl, by omega, by omega⟩
    · have d3 : decide ((r : Int) < (G : Int)) = false := by simp; omega
      go_wp2_with fail
      go_ret
      exact ⟨⟨_, rfl⟩, rfl⟩

/-! ### zzCopyDeps -/
theorem copy_nil (Gc : Nat) (w : World) : Calls Try.prog 25 #[.slice none 0 Gc] w fun e w' => e = .returned (.slice none 0 0) ∧ w' = w := by
  have hnil : (binOp BinOp.eql 51 (.slice none 0 Gc) (.slice none 0 0)).run Try.prog w = .ok (.bool true) w := by
    simp [binOp, run_equal_slice_nil w 51 65 none 0 Gc Try.underlying51]
  go_enter Try.func25, Try.ntmps25
  go_wp2_with fail
  go_ret
  exact ⟨rfl, rfl⟩

theorem info65 : (Try.prog.info? 65).map (fun i => (i.zero, i.size, i.bytes)) = some (some (.agg #[.string ⟨#[]⟩, .int .u64 0, .int .u64 0]), 3, 32) := by kernel_rfl

theorem make51 (G : Nat) (hG : G ≤ 1048576) (w : World) : ∃ C : Array Value, C.size = G * 3 ∧ (Instr.makeSlice 51 (.int .i64 (G : Int)) (.int .i64 (G : Int))).run Try.prog w = .ok (.slice (some ⟨w.heap.size, 0, none⟩) G G) (w.alloc (.cells C 65)) := by
  obtain ⟨i, hi, hzz⟩ := Option.map_eq_some_iff.1 info65
  simp only [Prod.mk.injEq] at hzz
  obtain ⟨hz, hs, hb⟩ := hzz
  have h := run_make (P := Try.prog) w 51 65 i _ Try.underlying51 hi hz .i64 .i64 (G : Int) (G : Int) (by omega) (by omega) (by rw [hb]; omega) (by omega)
  refine ⟨_, ?_, h⟩
  rw [size_madeCells, hs]
  simp

/-- The copy under way. -/
structure CopyAt (w wr : World) (G : Nat) (N : Nat → ByteArray) (R V : Nat → Int) (i : Nat) (F : Nat → Value) : Prop where
  since : w.Since w.heap.size wr
  row : wr.rowIs w.heap.size 65 (G * 3) F
  done : ∀ j, j < i → F (j * 3) = .string (N j) ∧ F (j * 3 + 1) = .int .u64 (R j) ∧ F (j * 3 + 2) = .int .u64 (V j)

theorem CopyAt.step {w wr : World} {G : Nat} {N : Nat → ByteArray} {R V : Nat → Int} {i : Nat} {F : Nat → Value} (h : CopyAt w wr G N R V i F) (hi : i < G) :
    ∃ F', CopyAt w (((wr.setCell ⟨w.heap.size, i * 3, none⟩ (.string (N i))).setCell ⟨w.heap.size, i * 3 + 1, none⟩ (.int .u64 (R i))).setCell ⟨w.heap.size, i * 3 + 2, none⟩ (.int .u64 (V i))) G N R V (i + 1) F' := by
  refine ⟨_, ((h.since.setCell (Nat.le_refl _) _).setCell (Nat.le_refl _) _).setCell (Nat.le_refl _) _, ((h.row.set _ _).set _ _).set _ _, fun j hj => ?_⟩
  by_cases e : j = i
  · subst e
    refine ⟨?_, ?_, ?_⟩
    · simp
    · simp
    · simp
  · obtain ⟨d0, d1, d2⟩ := h.done j (by omega)
    refine ⟨?_, ?_, ?_⟩
    · rw [if_neg (by omega), if_neg (by omega), if_neg (by omega)]; exact d0
    · rw [if_neg (by omega), if_neg (by omega), if_neg (by omega)]; exact d1
    · rw [if_neg (by omega), if_neg (by omega), if_neg (by omega)]; exact d2

set_option maxHeartbeats 1000000 in
theorem copy_some (a : Addr) (gb go G Gc : Nat) (N : Nat → ByteArray) (R V : Nat → Int) (w : World) (hG : G ≤ 1048576) (hD : DIn w (some a) gb go G N R V) :
    Calls Try.prog 25 #[.slice (some a) G Gc] w fun e w' => e = .returned (.slice (some ⟨w.heap.size, 0, none⟩) G G) ∧ w.Since w.heap.size w' ∧ w.heap.size < w'.heap.size ∧ DIn w' (some ⟨w.heap.size, 0, none⟩) w.heap.size 0 G N R V := by
  have hnil : (binOp BinOp.eql 51 (.slice (some a) G Gc) (.slice none 0 0)).run Try.prog w = .ok (.bool false) w := by
    simp [binOp, run_equal_slice_nil w 51 65 (some a) G Gc Try.underlying51]
  obtain ⟨C, hC, hmk⟩ := make51 G hG w
  have h0 : CopyAt w (w.alloc (.cells C 65)) G N R V 0 (fun i => (C[i]?).getD undef) := by
    refine ⟨alloc1 w _, ?_, fun j hj => by omega⟩
    rw [← hC]
    exact World.rowIs_alloc w C 65 _ (fun i hi => by simp [hi])
  have H0 : Hid (CopyAt w (w.alloc (.cells C 65)) G N R V 0 (fun i => (C[i]?).getD undef)) := h0
  clear h0 hC
  go_enter Try.func25, Try.ntmps25
  go_wp2_with fail
  clear hmk hnil
  go_loopg [4] G (fun g s wr => ∃ (i : Nat) (F : Nat → Value), i ≤ G ∧ g = G - i ∧ s = .int .i64 i ∧ CopyAt w wr G N R V i F)
  case atStart => go_light; exact ⟨0, _, Nat.zero_le _, rfl, rfl, H0.out⟩
  case round =>
    clear H0
    obtain ⟨i, F, hi, rfl, rfl, hC⟩ := hrel
    by_cases hiG : i < G
    · obtain rfl := Option.some.inj (hD.ga (by omega))
      have hiz : (i : Int) < (G : Int) := by omega
      have hD2 := hD.since hC.since
      have g0 := hD2.c0 i hiG
      have g1 := hD2.c1 i hiG
      have g2 := hD2.c2 i hiG
      have k0 := hC.row.cell (i := i * 3) (by omega)
      have k1 := hC.row.cell (i := i * 3 + 1) (by omega)
      have k2 := hC.row.cell (i := i * 3 + 2) (by omega)
      have z0 := hC.row.frozen (i * 3)
      have z1 := hC.row.frozen (i * 3 + 1)
      have z2 := hC.row.frozen (i * 3 + 2)
      obtain ⟨F', hC'⟩ := hC.step hiG
      have H2 : Hid (CopyAt w (((wr.setCell ⟨w.heap.size, i * 3, none⟩ (.string (N i))).setCell ⟨w.heap.size, i * 3 + 1, none⟩ (.int .u64 (R i))).setCell ⟨w.heap.size, i * 3 + 2, none⟩ (.int .u64 (V i))) G N R V (i + 1) F') := hC'
      clear hC' hC hD2
      go_wp2_with fail
      go_roundg (G - (i + 1))
      case measure => go_light; omega
      case rel => go_light; exact ⟨i + 1, F', by omega, rfl, by go_num, H2.out⟩
    · obtain rfl : i = G := by omega
      go_wp2_with fail
      go_ret
      refine ⟨rfl, hC.since, hC.row.lt, fun _ => rfl, fun j hj => ?_, fun j hj => ?_, fun j hj => ?_⟩
      · rw [Nat.zero_add, hC.row.cell (by omega), (hC.done j hj).1]
      · rw [Nat.zero_add, hC.row.cell (by omega), (hC.done j hj).2.1]
      · rw [Nat.zero_add, hC.row.cell (by omega), (hC.done j hj).2.2]

/-! ### zzDepsMap -/
/-- What the map holds when i counts are laid. -/
def built (N : Nat → ByteArray) (R V : Nat → Int) : Nat → Org → Option Int
  | 0 => fun _ => none
  | i + 1 => upd (built N R V i) (N i, R i) (V i)

theorem built_some {N : Nat → ByteArray} {R V : Nat → Int} : ∀ {i : Nat} {x : Org} {v : Int}, built N R V i x = some v → ∃ j, j < i ∧ x = (N j, R j) ∧ v = V j
  | 0, x, v, h => by cases h
  | i + 1, x, v, h => by
    by_cases e : x = (N i, R i)
    · subst e
      simp only [built, upd_same, Option.some.injEq] at h
      exact ⟨i, by omega, rfl, h.symm⟩
    · simp only [built, upd_other _ _ e] at h
      obtain ⟨j, hj, h1, h2⟩ := built_some h
      exact ⟨j, by omega, h1, h2⟩

theorem built_has {N : Nat → ByteArray} {R V : Nat → Int} : ∀ {i j : Nat}, j < i → ∃ v, built N R V i (N j, R j) = some v
  | i + 1, j, h => by
    by_cases e : (N j, R j) = (N i, R i)
    · rw [e]
      exact ⟨V i, upd_same _ _ _⟩
    · have hj : j < i := by
        rcases Nat.lt_or_ge j i with h' | h'
        · exact h'
        · have : j = i := by omega
          subst this
          exact absurd rfl e
      obtain ⟨v, hv⟩ := built_has (i := i) hj
      exact ⟨v, by simp only [built, upd_other _ _ e]; exact hv⟩

structure BuildAt (w wr : World) (N : Nat → ByteArray) (R V : Nat → Int) (i sz : Nat) : Prop where
  since : w.Since w.heap.size wr
  map : OM wr w.heap.size i (built N R V i) sz
  size : w.heap.size < wr.heap.size

structure WfD (G : Nat) (N : Nat → ByteArray) (R V : Nat → Int) : Prop where
  n : ∀ i, i < G → (N i).size ≤ maxLen
  r : ∀ i, i < G → (Lit.int .u64 (R i)).wf = true
  v : ∀ i, i < G → (Lit.int .u64 (V i)).wf = true

theorem WfD.ok {G : Nat} {N : Nat → ByteArray} {R V : Nat → Int} (h : WfD G N R V) {i : Nat} (hi : i < G) : OkO (N i, R i) := ⟨h.n i hi, h.r i hi⟩

theorem map_nil (Gc : Nat) (w : World) : Calls Try.prog 26 #[.slice none 0 Gc] w fun e w' => e = .returned (.map none) ∧ w' = w := by
  have hnil : (binOp BinOp.eql 51 (.slice none 0 Gc) (.slice none 0 0)).run Try.prog w = .ok (.bool true) w := by
    simp [binOp, run_equal_slice_nil w 51 65 none 0 Gc Try.underlying51]
  go_enter Try.func26, Try.ntmps26
  go_wp2_with fail
  go_ret
  exact ⟨rfl, rfl⟩

set_option maxHeartbeats 1000000 in
theorem map_some (a : Addr) (gb go G Gc : Nat) (N : Nat → ByteArray) (R V : Nat → Int) (w : World) (hG : G ≤ 1048576) (hW : WfD G N R V) (hD : DIn w (some a) gb go G N R V) :
    Calls Try.prog 26 #[.slice (some a) G Gc] w fun e w' => e = .returned (.map (some w.heap.size)) ∧ ∃ sz, BuildAt w w' N R V G sz := by
  have hnil : (binOp BinOp.eql 51 (.slice (some a) G Gc) (.slice none 0 0)).run Try.prog w = .ok (.bool false) w := by
    simp [binOp, run_equal_slice_nil w 51 65 (some a) G Gc Try.underlying51]
  have hmm := run_makeMap31 G
  go_enter Try.func26, Try.ntmps26
  go_wp2_with fail
  clear hmm hnil
  go_loopg [4] G (fun g n wr => ∃ i sz : Nat, i ≤ G ∧ g = G - i ∧ n = .int .i64 i ∧ BuildAt w wr N R V i sz)
  case atStart => exact ⟨0, 0, Nat.zero_le _, rfl, rfl, (World.Since.refl _ _).alloc (Nat.le_refl _) _, mapV_made orgKit Try.prog 30 w, by simp⟩
  case round =>
    obtain ⟨i, sz, hi, rfl, rfl, hB⟩ := hrel
    by_cases hiG : i < G
    · obtain rfl := Option.some.inj (hD.ga (by omega))
      have hiz : (i : Int) < (G : Int) := by omega
      have hiz0 : (0 : Int) ≤ (i : Int) := by omega
      have hD2 := hD.since hB.since
      have g0 := hD2.c0 i hiG
      have g1 := hD2.c1 i hiG
      have g2 := hD2.c2 i hiG
      have hM1 : OM wr.drew w.heap.size i (built N R V i) sz := hB.map
      obtain ⟨w3, hup, hM3, hg3, hs3⟩ := hM1.update good31 (by unfold maxLen; omega) (x := (N i, R i)) (hW.ok hiG) (y := V i) (hW.v i hiG)
      simp only [orgKit, mkO] at hup
      have n0 : gb ≠ w.heap.size := by have := cell_blk (hD.c0 i hiG); omega
      have hb : w3.heap[gb]? = wr.heap[gb]? := hg3.block gb (cell_blk g0) (fun e => n0 (by cases e; rfl))
      have q0 : w3.cell? ⟨gb, go + i * 3, none⟩ = some (.string (N i)) := by rw [World.cell?_of_block (w := wr) hb]; exact g0
      have q1 : w3.cell? ⟨gb, go + i * 3 + 1, none⟩ = some (.int .u64 (R i)) := by rw [World.cell?_of_block (w := wr) hb]; exact g1
      have q2 : w3.cell? ⟨gb, go + i * 3 + 2, none⟩ = some (.int .u64 (V i)) := by rw [World.cell?_of_block (w := wr) hb]; exact g2
      have hB' : BuildAt w w3 N R V (i + 1) _ := ⟨hB.since.drew.grown hg3 hB.since.size (fun k e => by cases e; exact Nat.le_refl _), hM3, by rw [hs3]; exact hB.size⟩
      clear hM1 hM3 hg3 hs3 hB n0 hb hD2
      go_wp2_with fail
      go_region_held3 (fun w' => w'.cell? ⟨gb, go + i * 3, none⟩ = some (.string (N i)) ∧ w'.cell? ⟨gb, go + i * 3 + 1, none⟩ = some (.int .u64 (R i)) ∧ w'.cell? ⟨gb, go + i * 3 + 2, none⟩ = some (.int .u64 (V i))) (first | go_keep | exact ⟨q0, q1, q2⟩) (fail)
      go_wp2_with fail
      go_roundg (G - (i + 1))
      case measure => go_light; omega
      case rel => go_light; exact ⟨i + 1, _, by omega, rfl, by go_num, hB'⟩
    · obtain rfl : i = G := by omega
      go_wp2_with fail
      go_ret
      exact ⟨rfl, sz, hB⟩
end Go.Proofs.Qxb6618715a
