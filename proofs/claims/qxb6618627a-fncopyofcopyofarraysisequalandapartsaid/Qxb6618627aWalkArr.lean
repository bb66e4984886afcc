/-
  THE WALK OF FnCopyOfCopyOfArraysIsEqualAndApart (4).
-/
import Derived.Test.Qxb6618627aHold
import Derived.Deep.RegionHeld3
namespace Go.Proofs.Qxb6618627a
open Go.RowKit
set_option linter.unusedVariables false
attribute [local go_sem] ta9_49 ta9_50 ta9_9 ta50_49 ta50_50

def val (t G : Nat) : Value := .iface 50 (.slice (some ⟨t, 0, none⟩) G G)

/-- The three arrays and the three variables that hold them. -/
structure Three (w wr : World) (G : Nat) (L : Nat → Nat) (S S1 S2 : Nat → Nat → ByteArray) (tA bA t1 b1 t2 b2 : Nat) : Prop where
  since : w.Since w.heap.size wr
  a : Arr wr tA G L S
  c1 : Arr wr t1 G L S1
  c2 : Arr wr t2 G L S2
  va : wr.rowIs bA 30 1 (fun _ => val tA G)
  v1 : wr.rowIs b1 30 1 (fun _ => val t1 G)
  v2 : wr.rowIs b2 30 1 (fun _ => val t2 G)
  o0 : w.heap.size ≤ tA
  o1 : tA + 1 + G ≤ bA
  o2 : bA < t1
  o3 : t1 + 1 + G ≤ b1
  o4 : b1 < t2
  o5 : t2 + 1 + G ≤ b2
  o6 : b2 < wr.heap.size

def Law (w : World) (e : Ending) (w' : World) : Prop := e = .returned (.bool true) ∧ w.Since w.heap.size w'

theorem box_row (w : World) (v : Value) : (w.alloc (.cells #[v] 30)).rowIs w.heap.size 30 1 (fun _ => v) := by
  refine World.rowIs_alloc w #[v] 30 _ ?_
  intro i hi
  have : i = 0 := by simp at hi; omega
  subst this; rfl

theorem Three.step {w wr w' : World} {G : Nat} {L : Nat → Nat} {S S1 S2 : Nat → Nat → ByteArray} {tA bA t1 b1 t2 b2 : Nat} (h : Three w wr G L S S1 S2 tA bA t1 b1 t2 b2) (hs : wr.Since wr.heap.size w') : Three w w' G L S S1 S2 tA bA t1 b1 t2 b2 := by
  have := h.o0; have := h.o1; have := h.o2; have := h.o3; have := h.o4; have := h.o5; have := h.o6
  exact ⟨h.since.trans (since_mono hs (by omega)), h.a.of_since hs (by omega), h.c1.of_since hs (by omega), h.c2.of_since hs (by omega), h.va.of_block (hs.block _ (by omega)), h.v1.of_block (hs.block _ (by omega)), h.v2.of_block (hs.block _ (by omega)),
    h.o0, h.o1, h.o2, h.o3, h.o4, h.o5, Nat.lt_of_lt_of_le h.o6 hs.size⟩

/-- The strings with the mark behind the first of each of the first k rows. -/
def bangs (m : UInt8) (L : Nat → Nat) (S : Nat → Nat → ByteArray) (k : Nat) : Nat → Nat → ByteArray := fun r c => if r < k ∧ c = 0 then S r 0 ++ ⟨#[m]⟩ else S r c

theorem cell_blk {w : World} {b o : Nat} {v : Value} (h : w.cell? ⟨b, o, none⟩ = some v) : b < w.heap.size := World.block_lt_of_cell? _ _ h
theorem far_cell (w : World) (b o t x : Nat) (hn : b ≠ t) (hb : b < w.heap.size) (v : Value) (ob : Obj) : ((w.setCell ⟨t, x, none⟩ v).alloc ob).drew.cell? ⟨b, o, none⟩ = w.cell? ⟨b, o, none⟩ := by
  show ((w.setCell ⟨t, x, none⟩ v).alloc ob).cell? ⟨b, o, none⟩ = _
  rw [World.cell?_alloc_old _ _ _ (by simp; omega), World.cell?_setCell_other _ _ _ _ (fun e => hn (congrArg Addr.block e).symm)]
theorem cat_one (a : ByteArray) (m : UInt8) (h : a.size ≤ 1048576) (w : World) : (Op.stringOp .add a ⟨#[m]⟩).run Try.prog w = .ok (.string (a ++ ⟨#[m]⟩)) w :=
  run_string_add_sum w _ _ (by show a.size + 1 ≤ _; omega)
theorem Arr.drew {w : World} {t G : Nat} {L : Nat → Nat} {S : Nat → Nat → ByteArray} (h : Arr w t G L S) : Arr w.drew t G L S := ⟨h.top, h.row⟩
theorem Arr.congr {w : World} {t G : Nat} {L : Nat → Nat} {S S' : Nat → Nat → ByteArray} (h : Arr w t G L S) (e : ∀ r, r < G → ∀ c, c < L r → S r c = S' r c) : Arr w t G L S' :=
  ⟨h.top, fun r hr => (h.row r hr).congr (fun c hc => by simp only [rowOf, e r hr c hc])⟩

theorem Three.start2 {w wr : World} {G : Nat} {L : Nat → Nat} {S S1 S2 : Nat → Nat → ByteArray} {tA bA t1 b1 t2 b2 : Nat} {m : UInt8} (h : Three w wr G L S S1 S2 tA bA t1 b1 t2 b2) : Three w wr G L S S1 (bangs m L S2 0) tA bA t1 b1 t2 b2 :=
  ⟨h.since, h.a, h.c1, h.c2.congr (fun r _ c _ => by simp [bangs]), h.va, h.v1, h.v2, h.o0, h.o1, h.o2, h.o3, h.o4, h.o5, h.o6⟩

theorem Three.skip2 {w wr : World} {G : Nat} {L : Nat → Nat} {S S1 S2 : Nat → Nat → ByteArray} {tA bA t1 b1 t2 b2 k : Nat} {m : UInt8} (h : Three w wr G L S S1 (bangs m L S2 k) tA bA t1 b1 t2 b2) (hk : L k = 0) : Three w wr G L S S1 (bangs m L S2 (k + 1)) tA bA t1 b1 t2 b2 := by
  refine ⟨h.since, h.a, h.c1, h.c2.congr (fun r _ c hc => ?_), h.va, h.v1, h.v2, h.o0, h.o1, h.o2, h.o3, h.o4, h.o5, h.o6⟩
  have hr : r ≠ k := fun e => by subst e; omega
  have e : (r < k ∧ c = 0) ↔ (r < k + 1 ∧ c = 0) := by omega
  simp only [bangs, e]

theorem Three.set2 {w wr : World} {G : Nat} {L : Nat → Nat} {S S1 S2 : Nat → Nat → ByteArray} {tA bA t1 b1 t2 b2 k : Nat} {m : UInt8} (h : Three w wr G L S S1 (bangs m L S2 k) tA bA t1 b1 t2 b2) (hk : k < G) (hL : 0 < L k) (o : Obj) :
    Three w (((wr.setCell ⟨t2 + 1 + k, 0, none⟩ (.iface 9 (.string (S2 k 0 ++ ⟨#[m]⟩)))).alloc o).drew) G L S S1 (bangs m L S2 (k + 1)) tA bA t1 b1 t2 b2 := by
  have p0 := h.o0; have p1 := h.o1; have p2 := h.o2; have p3 := h.o3; have p4 := h.o4; have p5 := h.o5; have p6 := h.o6
  refine ⟨((h.since.setCell (a := ⟨t2 + 1 + k, 0, none⟩) (by show w.heap.size ≤ t2 + 1 + k; omega) _).alloc (by simp; omega) o).drew, (((h.a.setOther (a := ⟨t2 + 1 + k, 0, none⟩) (Or.inr (by show _ ≤ t2 + 1 + k; omega)) _).alloc o)).drew, (((h.c1.setOther (a := ⟨t2 + 1 + k, 0, none⟩) (Or.inr (by show _ ≤ t2 + 1 + k; omega)) _).alloc o)).drew,
    Arr.drew (Arr.alloc ⟨h.c2.top.setOther (by show t2 ≠ t2 + 1 + k; omega) _, fun r hr => ?_⟩ o), ((h.va.setOther (by show bA ≠ t2 + 1 + k; omega) _).alloc o).drew, ((h.v1.setOther (by show b1 ≠ t2 + 1 + k; omega) _).alloc o).drew, ((h.v2.setOther (by show b2 ≠ t2 + 1 + k; omega) _).alloc o).drew, p0, p1, p2, p3, p4, p5, by simp; omega⟩
  by_cases e : r = k
  · subst e
    refine ((h.c2.row r hr).set 0 _).congr (fun c _ => ?_)
    by_cases ec : c = 0
    · subst ec; simp [rowOf, bangs]
    · simp [rowOf, bangs, ec]
  · refine ((h.c2.row r hr).setOther (by show t2 + 1 + r ≠ t2 + 1 + k; omega) _).congr (fun c _ => ?_)
    have e' : (r < k ∧ c = 0) ↔ (r < k + 1 ∧ c = 0) := by omega
    simp only [rowOf, bangs, e']

theorem Three.drewN {w wr : World} {G : Nat} {L : Nat → Nat} {S S1 S2 : Nat → Nat → ByteArray} {tA bA t1 b1 t2 b2 : Nat} (h : Three w wr G L S S1 S2 tA bA t1 b1 t2 b2) (n : Nat) : Three w (wr.drewN n) G L S S1 S2 tA bA t1 b1 t2 b2 :=
  ⟨since_drewN h.since n, ⟨h.a.top, h.a.row⟩, ⟨h.c1.top, h.c1.row⟩, ⟨h.c2.top, h.c2.row⟩, h.va, h.v1, h.v2, h.o0, h.o1, h.o2, h.o3, h.o4, h.o5, h.o6⟩

theorem Three.start1 {w wr : World} {G : Nat} {L : Nat → Nat} {S S1 S2 : Nat → Nat → ByteArray} {tA bA t1 b1 t2 b2 : Nat} {m : UInt8} (h : Three w wr G L S S1 S2 tA bA t1 b1 t2 b2) : Three w wr G L S (bangs m L S1 0) S2 tA bA t1 b1 t2 b2 :=
  ⟨h.since, h.a, h.c1.congr (fun r _ c _ => by simp [bangs]), h.c2, h.va, h.v1, h.v2, h.o0, h.o1, h.o2, h.o3, h.o4, h.o5, h.o6⟩

theorem Three.skip1 {w wr : World} {G : Nat} {L : Nat → Nat} {S S1 S2 : Nat → Nat → ByteArray} {tA bA t1 b1 t2 b2 k : Nat} {m : UInt8} (h : Three w wr G L S (bangs m L S1 k) S2 tA bA t1 b1 t2 b2) (hk : L k = 0) : Three w wr G L S (bangs m L S1 (k + 1)) S2 tA bA t1 b1 t2 b2 := by
  refine ⟨h.since, h.a, h.c1.congr (fun r _ c hc => ?_), h.c2, h.va, h.v1, h.v2, h.o0, h.o1, h.o2, h.o3, h.o4, h.o5, h.o6⟩
  have hr : r ≠ k := fun e => by subst e; omega
  have e : (r < k ∧ c = 0) ↔ (r < k + 1 ∧ c = 0) := by omega
  simp only [bangs, e]

theorem Three.set1 {w wr : World} {G : Nat} {L : Nat → Nat} {S S1 S2 : Nat → Nat → ByteArray} {tA bA t1 b1 t2 b2 k : Nat} {m : UInt8} (h : Three w wr G L S (bangs m L S1 k) S2 tA bA t1 b1 t2 b2) (hk : k < G) (hL : 0 < L k) (o : Obj) :
    Three w (((wr.setCell ⟨t1 + 1 + k, 0, none⟩ (.iface 9 (.string (S1 k 0 ++ ⟨#[m]⟩)))).alloc o).drew) G L S (bangs m L S1 (k + 1)) S2 tA bA t1 b1 t2 b2 := by
  have p0 := h.o0; have p1 := h.o1; have p2 := h.o2; have p3 := h.o3; have p4 := h.o4; have p5 := h.o5; have p6 := h.o6
  refine ⟨((h.since.setCell (a := ⟨t1 + 1 + k, 0, none⟩) (by show w.heap.size ≤ t1 + 1 + k; omega) _).alloc (by simp; omega) o).drew, (((h.a.setOther (a := ⟨t1 + 1 + k, 0, none⟩) (Or.inr (by show _ ≤ t1 + 1 + k; omega)) _).alloc o)).drew,
    Arr.drew (Arr.alloc ⟨h.c1.top.setOther (by show t1 ≠ t1 + 1 + k; omega) _, fun r hr => ?_⟩ o), (((h.c2.setOther (a := ⟨t1 + 1 + k, 0, none⟩) (Or.inl (by show t1 + 1 + k < _; omega)) _).alloc o)).drew,
    ((h.va.setOther (by show bA ≠ t1 + 1 + k; omega) _).alloc o).drew, ((h.v1.setOther (by show b1 ≠ t1 + 1 + k; omega) _).alloc o).drew, ((h.v2.setOther (by show b2 ≠ t1 + 1 + k; omega) _).alloc o).drew, p0, p1, p2, p3, p4, p5, by simp; omega⟩
  by_cases e : r = k
  · subst e
    refine ((h.c1.row r hr).set 0 _).congr (fun c _ => ?_)
    by_cases ec : c = 0
    · subst ec; simp [rowOf, bangs]
    · simp [rowOf, bangs, ec]
  · refine ((h.c1.row r hr).setOther (by show t1 + 1 + r ≠ t1 + 1 + k; omega) _).congr (fun c _ => ?_)
    have e' : (r < k ∧ c = 0) ↔ (r < k + 1 ∧ c = 0) := by omega
    simp only [rowOf, bangs, e']

set_option maxHeartbeats 4000000 in
set_option maxRecDepth 100000 in
theorem law_walk (ga : Option Addr) (gb go G Gc : Nat) (A : Nat → Option Addr) (L C RB RO : Nat → Nat) (S : Nat → Nat → ByteArray) (w : World) (hG : G ≤ maxLen) (hL : ∀ r, r < G → L r ≤ maxLen) (hS : ∀ r, r < G → ∀ c, c < L r → (S r c).size ≤ maxLen)
    (hI : Inp w ga gb go G A L C RB RO S) :
    Calls Try.prog 4 #[.slice ga G Gc] w (Law w) := by
  have hB := bytes_any ga gb go G Gc A L C RB RO S w hG hL hS hI
  unfold maxLen at hG
  have HB : Hid (Calls Try.prog 14 #[.slice ga G Gc] w (Answers G L S w)) := hB
  clear hB hL hS
  go_enter Try.func4, Try.ntmps4
  go_wp2_with fail
  refine HB.out.mono ?_
  rintro e w' ⟨⟨b, rfl, hfit⟩, h⟩
  obtain rfl := h
  clear HB
  cases b with
  | false =>
    go_wp2_with fail
    go_ret
    exact ⟨rfl, World.Since.refl _ _⟩
  | true =>
  have hF := hfit rfl
  clear hfit
  by_cases h1 : (65536 : Int) < (G : Int)
  · go_wp2_with fail
    go_ret
    exact ⟨rfl, World.Since.refl _ _⟩
  · go_wp2_with fail
    go_loopg [3, 4] G (fun g n i wr => w' = wr ∧ ∃ (r : Nat) (z : Int), r ≤ G ∧ g = G - r ∧ i = .int .i64 r ∧ n = .int .i64 z ∧ 0 ≤ z ∧ z ≤ 1048576)
    case atStart => exact ⟨rfl, 0, 0, Nat.zero_le _, rfl, rfl, rfl, by omega, by omega⟩
    case round =>
      obtain ⟨rfl, r, z, hr, rfl, rfl, rfl, hz0, hz1⟩ := hrel
      by_cases hrG : r < G
      · obtain rfl := hI.ga (by omega)
        have hrz : (r : Int) < (G : Int) := by omega
        have hLr := hF.l r hrG
        have g0 := hI.row r hrG
        by_cases h2 : (65536 : Int) < (L r : Int)
        · go_wp2_with fail
          go_ret
          exact ⟨rfl, World.Since.refl _ _⟩
        · by_cases h3 : (1048576 : Int) < z + (24 + 16 * (L r : Int))
          · go_wp2_with fail
            go_ret
            exact ⟨rfl, World.Since.refl _ _⟩
          · go_wp2_with fail
            go_loopg [3, 5] (L r) (fun g n i wi => w' = wi ∧ ∃ (c : Nat) (z : Int), c ≤ L r ∧ g = L r - c ∧ i = .int .i64 c ∧ n = .int .i64 z ∧ 0 ≤ z ∧ z ≤ 1048576)
            case atStart => go_light; exact ⟨rfl, 0, _, Nat.zero_le _, rfl, rfl, rfl, by omega, by omega⟩
            case round =>
              obtain ⟨rfl, c, y, hc, rfl, rfl, rfl, hy0, hy1⟩ := hrel
              by_cases hcL : c < L r
              · have hcz : (c : Int) < (L r : Int) := by omega
                have g1 := (hI.cell r hrG c hcL).2
                rw [(hI.cell r hrG c hcL).1] at g0
                have hSc := hF.s r hrG c hcL
                by_cases h5 : (1048576 : Int) < y + ((S r c).size : Int)
                · go_wp2_with fail
                  go_ret
                  exact ⟨rfl, World.Since.refl _ _⟩
                · go_wp2_with fail
                  go_roundg (L r - (c + 1))
                  case measure => go_light; omega
                  case rel => go_light; exact ⟨rfl, c + 1, _, by omega, rfl, by go_num, rfl, by omega, by omega⟩
              · obtain rfl : c = L r := by omega
                go_wp2_with fail
                go_roundg (G - (r + 1))
                case measure => go_light; omega
                case rel => go_light; exact ⟨rfl, r + 1, _, by omega, rfl, by go_num, rfl, by omega, by omega⟩
      · obtain rfl : r = G := by omega
        clear hz0 hz1 hrG hr
        go_wp2_with fail
        refine (mk_arr ga gb go r Gc A L C RB RO S w' hF.g hF.l hI).mono ?_
        rintro e w1 ⟨rfl, s1, a1, z1⟩
        have q0 : w'.heap.size < w1.heap.size := by omega
        have q1 : w'.heap.size + 1 + 1 + r ≤ w1.heap.size := by omega
        have q2 : w'.heap.size ≤ w'.heap.size + 1 := by omega
        clear z1
        generalize w'.heap.size + 1 = tA at *
        go_wp2_with fail
        have va := box_row w1 (val tA r)
        have s2 := s1.alloc (Nat.le_of_lt q0) (.cells #[val tA r] 30)
        have a2 := a1.alloc (.cells #[val tA r] 30)
        have z2 : (w1.alloc (.cells #[val tA r] 30)).heap.size = w1.heap.size + 1 := by simp
        generalize hW : w1.alloc (.cells #[val tA r] 30) = W1 at va s2 a2 z2
        have hW' : w1.alloc (.cells #[.iface 50 (.slice (some ⟨tA, 0, none⟩) r r)] 30) = W1 := hW
        rw [hW']
        clear hW' hW s1 a1
        generalize w1.heap.size = bA at *
        clear w1
        refine (zcopy_arr tA r L S W1 hF.g hF.l a2).mono ?_
        rintro e w2 ⟨rfl, s3, a3, z3⟩
        have s4 := s2.trans (since_mono s3 (by omega))
        have a4 := a2.of_since s3 (by omega)
        have va4 := va.of_block (s3.block _ (by omega))
        have q3 : bA < W1.heap.size + 2 := by omega
        have q4 : W1.heap.size + 2 + 1 + r ≤ w2.heap.size := by omega
        clear z3 z2 s2 a2 va s3
        generalize W1.heap.size + 2 = t1 at *
        clear W1
        go_wp2_with fail
        have v1 := box_row w2 (val t1 r)
        have s5 := s4.alloc (by omega) (.cells #[val t1 r] 30)
        have a5 := a4.alloc (.cells #[val t1 r] 30)
        have c5 := a3.alloc (.cells #[val t1 r] 30)
        have va5 := va4.alloc (.cells #[val t1 r] 30)
        have z5 : (w2.alloc (.cells #[val t1 r] 30)).heap.size = w2.heap.size + 1 := by simp
        generalize hW : w2.alloc (.cells #[val t1 r] 30) = W2 at v1 s5 a5 c5 va5 z5
        have hW' : w2.alloc (.cells #[.iface 50 (.slice (some ⟨t1, 0, none⟩) r r)] 30) = W2 := hW
        rw [hW']
        clear hW' hW s4 a4 a3 va4
        generalize w2.heap.size = b1 at *
        clear w2
        refine (zcopy_arr t1 r L S W2 hF.g hF.l c5).mono ?_
        rintro e w3 ⟨rfl, s6, c6, z6⟩
        have s7 := s5.trans (since_mono s6 (by omega))
        have a7 := a5.of_since s6 (by omega)
        have c7 := c5.of_since s6 (by omega)
        have va7 := va5.of_block (s6.block _ (by omega))
        have v17 := v1.of_block (s6.block _ (by omega))
        have q5 : b1 < W2.heap.size + 2 := by omega
        have q6 : W2.heap.size + 2 + 1 + r ≤ w3.heap.size := by omega
        clear z6 z5 s5 a5 c5 va5 v1 s6
        generalize W2.heap.size + 2 = t2 at *
        clear W2
        have k0 : w3.cell? ⟨bA, 0, none⟩ = some (.iface 50 (.slice (some ⟨tA, 0, none⟩) r r)) := va7.cell (by omega)
        have k1 : bA < w3.heap.size := by omega
        go_wp2_with fail
        have hT : Three w' (w3.alloc (.cells #[val t2 r] 30)) r L S S S tA bA t1 b1 t2 w3.heap.size :=
          ⟨s7.alloc (by omega) _, a7.alloc _, c7.alloc _, c6.alloc _, va7.alloc _, v17.alloc _, box_row _ _, by omega, by omega, by omega, by omega, by omega, by omega, by simp⟩
        generalize hW : w3.alloc (.cells #[val t2 r] 30) = W3 at hT
        have hW' : w3.alloc (.cells #[.iface 50 (.slice (some ⟨t2, 0, none⟩) r r)] 30) = W3 := hW
        rw [hW']
        clear hW' hW s7 a7 c7 c6 va7 v17 k0 k1 q0 q1 q2 q3 q4 q5 q6
        generalize w3.heap.size = b2 at *
        clear w3
        have o1 := hT.o1; have o2 := hT.o2; have o3 := hT.o3; have o4 := hT.o4; have o5 := hT.o5; have o6 := hT.o6
        refine (holds_rows tA r ga gb go Gc A L C RB RO S W3 hF.g hF.l (hI.since hT.since) hT.a (by omega)).mono ?_
        clear o1 o2 o3 o4 o5 o6
        rintro e w4 ⟨rfl, s8⟩
        have hT4 := hT.step s8
        clear hT s8 W3
        have k0 : w4.cell? ⟨b1, 0, none⟩ = some (.iface 50 (.slice (some ⟨t1, 0, none⟩) r r)) := hT4.v1.cell (by omega)
        go_wp2_with fail
        have o1 := hT4.o1; have o2 := hT4.o2; have o3 := hT4.o3; have o4 := hT4.o4; have o5 := hT4.o5; have o6 := hT4.o6
        refine (holds_rows t1 r ga gb go Gc A L C RB RO S w4 hF.g hF.l (hI.since hT4.since) hT4.c1 (by omega)).mono ?_
        clear o1 o2 o3 o4 o5 o6
        rintro e w5 ⟨rfl, s8⟩
        have hT5 := hT4.step s8
        clear hT4 s8 k0 w4
        have k0 : w5.cell? ⟨b2, 0, none⟩ = some (.iface 50 (.slice (some ⟨t2, 0, none⟩) r r)) := hT5.v2.cell (by omega)
        go_wp2_with fail
        have o1 := hT5.o1; have o2 := hT5.o2; have o3 := hT5.o3; have o4 := hT5.o4; have o5 := hT5.o5; have o6 := hT5.o6
        refine (holds_rows t2 r ga gb go Gc A L C RB RO S w5 hF.g hF.l (hI.since hT5.since) hT5.c2 (by omega)).mono ?_
        clear o1 o2 o3 o4 o5 o6
        rintro e w6 ⟨rfl, s8⟩
        have hT6 := hT5.step s8
        clear hT5 s8 k0 w5
        go_wp2_with fail
        go_loopg [9, 10] r (fun g ok i wr => ∃ k : Nat, k ≤ r ∧ g = r - k ∧ i = .int .i64 k ∧ ok = .bool true ∧ Three w' wr r L S S (bangs 33 L S k) tA bA t1 b1 t2 b2)
        case atStart => go_light; exact ⟨0, Nat.zero_le _, rfl, rfl, rfl, hT6.start2⟩
        case round =>
          clear hT6 w6
          obtain ⟨k, hk, rfl, rfl, rfl, hT⟩ := hrel
          by_cases hkr : k < r
          · obtain rfl := hI.ga (by omega)
            have hkz : (k : Int) < (r : Int) := by omega
            have g0 := (hI.since hT.since).row k hkr
            by_cases hL0 : L k = 0
            · have hL0' : ((L k : Int) == 0) = true := by simp [hL0]
              have HL : Hid (L k = 0) := hL0
              clear hL0
              go_wp2_with fail
              go_roundg (r - (k + 1))
              case measure => go_light; omega
              case rel => go_light; exact ⟨k + 1, by omega, rfl, by go_num, rfl, hT.skip2 HL.out⟩
            · have hL0' : ((L k : Int) == 0) = false := by simp; omega
              have hL1 : (0 : Int) < (L k : Int) := by omega
              have g1 := ((hI.since hT.since).cell k hkr 0 (by omega)).2
              rw [((hI.since hT.since).cell k hkr 0 (by omega)).1] at g0
              have k0 : wr.cell? ⟨b2, 0, none⟩ = some (.iface 50 (.slice (some ⟨t2, 0, none⟩) r r)) := hT.v2.cell (by omega)
              have hS0 := hF.s k hkr 0 (by omega)
              have hg := hF.g
              have hLk := hF.l k hkr
              have hLp : 0 < L k := by omega
              have HA : Hid (Arr wr.drew t2 r L (bangs 33 L S k)) := hT.c2.drew
              have p0 := hT.o0; have p1 := hT.o1; have p2 := hT.o2; have p3 := hT.o3; have p4 := hT.o4; have p5 := hT.o5; have p6 := hT.o6
              have n1 : b2 ≠ t2 + 1 + k := by omega
              have n2 : gb ≠ t2 + 1 + k := by have := cell_blk (hI.row k hkr); omega
              have n3 : RB k ≠ t2 + 1 + k := by have := cell_blk (hI.cell k hkr 0 (by omega)).2; omega
              have m1 : b2 < wr.heap.size := p6
              have m2 : gb < wr.heap.size := by have := cell_blk (hI.row k hkr); omega
              have m3 : RB k < wr.heap.size := by have := cell_blk (hI.cell k hkr 0 (by omega)).2; omega
              clear p0 p1 p2 p3 p4 p5 p6
              have f1 := far_cell wr b2 0 (t2 + 1 + k) 0 n1 m1
              have f2 := far_cell wr gb (go + k) (t2 + 1 + k) 0 n2 m2
              have f3 := far_cell wr (RB k) (RO k) (t2 + 1 + k) 0 n3 m3
              have hcat := cat_one (S k 0) 33 hS0
              simp only [Nat.add_zero] at g1
              go_wp2_with fail
              go_region_held3 (fun w' => w'.cell? ⟨b2, 0, none⟩ = some (.iface 50 (.slice (some ⟨t2, 0, none⟩) r r)) ∧ w'.cell? ⟨gb, go + k, none⟩ = some (.slice (some ⟨RB k, RO k, none⟩) (L k) (C k)) ∧ w'.cell? ⟨RB k, RO k, none⟩ = some (.string (S k 0))) (go_keep) (first | (go_at_call 17; refine (set_string t2 r L _ k _ _ hg hLk hLp hkr HA.out).mono ?_; rintro e w' ⟨rfl, rfl⟩))
              clear f1 f2 f3 hcat n1 n2 n3 m1 m2 m3 HA k0 g0 g1
              have hT1 := hT.set2 hkr hLp (.cells #[.iface 50 (.slice (some ⟨t2, 0, none⟩) r r)] 30)
              clear hT
              generalize (((wr.setCell ⟨t2 + 1 + k, 0, none⟩ (.iface 9 (.string (S k 0 ++ ⟨#[33]⟩)))).alloc (.cells #[.iface 50 (.slice (some ⟨t2, 0, none⟩) r r)] 30)).drew) = W4 at *
              have k0 : W4.cell? ⟨b2, 0, none⟩ = some (.iface 50 (.slice (some ⟨t2, 0, none⟩) r r)) := hT1.v2.cell (by omega)
              go_wp2_with fail
              refine (strings_at t2 r L _ k W4 hLk hkr hT1.c2).mono ?_
              rintro e w7 ⟨rfl, hgot⟩
              have hT2 := hT1.step hgot.since
              have k1 := hgot.row.cell hLp
              have e0 : bangs 33 L S (k + 1) k 0 = S k 0 ++ ⟨#[33]⟩ := by simp [bangs]
              simp only [if_pos hLp, e0] at k1
              clear hgot hT1 k0 e0
              generalize W4.heap.size + 1 = rb at *

              have g0 := (hI.since hT2.since).row k hkr
              have g1 := ((hI.since hT2.since).cell k hkr 0 (by omega)).2
              rw [((hI.since hT2.since).cell k hkr 0 (by omega)).1] at g0
              simp only [Nat.add_zero] at g1
              have hcat := cat_one (S k 0) 33 hS0
              go_wp2_with fail
              go_quiet (fail)
              go_wp2_with fail
              go_roundg (r - (k + 1))
              case measure => go_light; omega
              case rel => go_light; exact ⟨k + 1, by omega, rfl, by go_num, rfl, hT2.drewN _⟩
          · obtain rfl : k = r := by omega
            clear hkr hk
            have k0 : wr.cell? ⟨b1, 0, none⟩ = some (.iface 50 (.slice (some ⟨t1, 0, none⟩) k k)) := hT.v1.cell (by omega)
            go_wp2_with fail
            have o1 := hT.o1; have o2 := hT.o2; have o3 := hT.o3; have o4 := hT.o4; have o5 := hT.o5; have o6 := hT.o6
            refine (holds_rows t1 k ga gb go Gc A L C RB RO S wr hF.g hF.l (hI.since hT.since) hT.c1 (by omega)).mono ?_
            clear o1 o2 o3 o4 o5 o6
            rintro e w8 ⟨rfl, s8⟩
            have hT8 := hT.step s8
            clear hT s8 k0
            have k0 : w8.cell? ⟨bA, 0, none⟩ = some (.iface 50 (.slice (some ⟨tA, 0, none⟩) k k)) := hT8.va.cell (by omega)
            go_wp2_with fail
            have o1 := hT8.o1; have o2 := hT8.o2; have o3 := hT8.o3; have o4 := hT8.o4; have o5 := hT8.o5; have o6 := hT8.o6
            refine (holds_rows tA k ga gb go Gc A L C RB RO S w8 hF.g hF.l (hI.since hT8.since) hT8.a (by omega)).mono ?_
            clear o1 o2 o3 o4 o5 o6
            rintro e w9 ⟨rfl, s8⟩
            have hT9 := hT8.step s8
            clear hT8 s8 k0 w8
            go_wp2_with fail
            go_loopg [9, 13] k (fun g ok i wr => ∃ j : Nat, j ≤ k ∧ g = k - j ∧ i = .int .i64 j ∧ ok = .bool true ∧ Three w' wr k L S (bangs 63 L S j) (bangs 33 L S k) tA bA t1 b1 t2 b2)
            case atStart => go_light; exact ⟨0, Nat.zero_le _, rfl, rfl, rfl, hT9.start1⟩
            case round =>
              clear hT9 w9
              obtain ⟨j, hj, rfl, rfl, rfl, hT⟩ := hrel
              by_cases hjk : j < k
              · obtain rfl := hI.ga (by omega)
                have hjz : (j : Int) < (k : Int) := by omega
                have g0 := (hI.since hT.since).row j hjk
                by_cases hL0 : L j = 0
                · have hL0' : ((L j : Int) == 0) = true := by simp [hL0]
                  have HL : Hid (L j = 0) := hL0
                  clear hL0
                  go_wp2_with fail
                  go_roundg (k - (j + 1))
                  case measure => go_light; omega
                  case rel => go_light; exact ⟨j + 1, by omega, rfl, by go_num, rfl, hT.skip1 HL.out⟩
                · have hL0' : ((L j : Int) == 0) = false := by simp; omega
                  have hL1 : (0 : Int) < (L j : Int) := by omega
                  have g1 := ((hI.since hT.since).cell j hjk 0 (by omega)).2
                  rw [((hI.since hT.since).cell j hjk 0 (by omega)).1] at g0
                  have k0 : wr.cell? ⟨b1, 0, none⟩ = some (.iface 50 (.slice (some ⟨t1, 0, none⟩) k k)) := hT.v1.cell (by omega)
                  have hS0 := hF.s j hjk 0 (by omega)
                  have hg := hF.g
                  have hLj := hF.l j hjk
                  have hLp : 0 < L j := by omega
                  have HA : Hid (Arr wr.drew t1 k L (bangs 63 L S j)) := hT.c1.drew
                  have p0 := hT.o0; have p1 := hT.o1; have p2 := hT.o2; have p3 := hT.o3; have p4 := hT.o4; have p5 := hT.o5; have p6 := hT.o6
                  have n1 : b1 ≠ t1 + 1 + j := by omega
                  have n2 : gb ≠ t1 + 1 + j := by have := cell_blk (hI.row j hjk); omega
                  have n3 : RB j ≠ t1 + 1 + j := by have := cell_blk (hI.cell j hjk 0 (by omega)).2; omega
                  have m1 : b1 < wr.heap.size := by omega
                  have m2 : gb < wr.heap.size := by have := cell_blk (hI.row j hjk); omega
                  have m3 : RB j < wr.heap.size := by have := cell_blk (hI.cell j hjk 0 (by omega)).2; omega
                  clear p0 p1 p2 p3 p4 p5 p6
                  have f1 := far_cell wr b1 0 (t1 + 1 + j) 0 n1 m1
                  have f2 := far_cell wr gb (go + j) (t1 + 1 + j) 0 n2 m2
                  have f3 := far_cell wr (RB j) (RO j) (t1 + 1 + j) 0 n3 m3
                  have hcat := cat_one (S j 0) 63 hS0
                  simp only [Nat.add_zero] at g1
                  go_wp2_with fail
                  go_region_held3 (fun w' => w'.cell? ⟨b1, 0, none⟩ = some (.iface 50 (.slice (some ⟨t1, 0, none⟩) k k)) ∧ w'.cell? ⟨gb, go + j, none⟩ = some (.slice (some ⟨RB j, RO j, none⟩) (L j) (C j)) ∧ w'.cell? ⟨RB j, RO j, none⟩ = some (.string (S j 0))) (go_keep) (first | (go_at_call 17; refine (set_string t1 k L _ j _ _ hg hLj hLp hjk HA.out).mono ?_; rintro e w' ⟨rfl, rfl⟩))
                  clear f1 f2 f3 hcat n1 n2 n3 m1 m2 m3 HA k0 g0 g1
                  have hT1 := hT.set1 hjk hLp (.cells #[.iface 50 (.slice (some ⟨t1, 0, none⟩) k k)] 30)
                  clear hT
                  generalize (((wr.setCell ⟨t1 + 1 + j, 0, none⟩ (.iface 9 (.string (S j 0 ++ ⟨#[63]⟩)))).alloc (.cells #[.iface 50 (.slice (some ⟨t1, 0, none⟩) k k)] 30)).drew) = W4 at *
                  have k0 : W4.cell? ⟨b1, 0, none⟩ = some (.iface 50 (.slice (some ⟨t1, 0, none⟩) k k)) := hT1.v1.cell (by omega)
                  go_wp2_with fail
                  refine (strings_at t1 k L _ j W4 hLj hjk hT1.c1).mono ?_
                  rintro e w7 ⟨rfl, hgot⟩
                  have hT2 := hT1.step hgot.since
                  have k1 := hgot.row.cell hLp
                  have e0 : bangs 63 L S (j + 1) j 0 = S j 0 ++ ⟨#[63]⟩ := by simp [bangs]
                  simp only [if_pos hLp, e0] at k1
                  clear hgot hT1 k0 e0
                  generalize W4.heap.size + 1 = rb at *
                  have g0 := (hI.since hT2.since).row j hjk
                  have g1 := ((hI.since hT2.since).cell j hjk 0 (by omega)).2
                  rw [((hI.since hT2.since).cell j hjk 0 (by omega)).1] at g0
                  simp only [Nat.add_zero] at g1
                  have hcat := cat_one (S j 0) 63 hS0
                  go_wp2_with fail
                  go_quiet (fail)
                  go_wp2_with fail
                  go_roundg (k - (j + 1))
                  case measure => go_light; omega
                  case rel => go_light; exact ⟨j + 1, by omega, rfl, by go_num, rfl, hT2.drewN _⟩
              · obtain rfl : j = k := by omega
                have k0 : wr.cell? ⟨bA, 0, none⟩ = some (.iface 50 (.slice (some ⟨tA, 0, none⟩) j j)) := hT.va.cell (by omega)
                go_wp2_with fail
                have o1 := hT.o1; have o2 := hT.o2; have o3 := hT.o3; have o4 := hT.o4; have o5 := hT.o5; have o6 := hT.o6
                refine (holds_rows tA j ga gb go Gc A L C RB RO S wr hF.g hF.l (hI.since hT.since) hT.a (by omega)).mono ?_
                clear o1 o2 o3 o4 o5 o6
                rintro e w10 ⟨rfl, s8⟩
                have hTe := (hT.step s8).since
                clear hT s8 k0
                go_wp2_with fail
                go_ret
                exact ⟨rfl, hTe⟩

end Go.Proofs.Qxb6618627a
