/-
  THE WALKS OF ZZB1ObjectOfNumbers (6), ZZB1NumbersAt (9), ZZB1ObjectLen (11), ZZB1PutEmptyArray (12), ZZB1SetNumberAt (13).
-/
import Derived.Test.Qxb6618627aEnt
namespace Go.Proofs.Qxb6618627a
open Go.RowKit
set_option linter.unusedVariables false
theorem run_store_float {P : Program} {w : World} {a : Addr} {m : Mode} (k : FloatKind) (x : Nat) : (store a (.float k x) m).run P w = stored P w a (.float k x) m := run_store P w a _ m rfl
attribute [local go_sem] run_store_float ta40_49 ta40_50 ta40_40 ta49_49 ta50_49 ta50_50

/-- How many different keys stand below i. -/
def dist (K : Nat → ByteArray) : Nat → Nat
  | 0 => 0
  | i + 1 => if (lastIdx K i (K i)).isSome then dist K i else dist K i + 1

/-- The first object's map: at the key s the row made for its last place. -/
def place (K : Nat → ByteArray) (L : Nat → Nat) (N i : Nat) : ByteArray → Option (Nat × Nat) := fun s => (lastIdx K i s).map fun j => (N + j, L j)

def lastY (K : Nat → ByteArray) (X : Nat → Nat → Nat) (G : Nat) (s : ByteArray) : Nat → Nat := X ((lastIdx K G s).getD 0)

structure MkO (w wr : World) (K : Nat → ByteArray) (L : Nat → Nat) (X : Nat → Nat → Nat) (i : Nat) : Prop where
  since : w.Since w.heap.size wr
  size : wr.heap.size = w.heap.size + 2 + i
  res : wr.rowIs w.heap.size 30 1 (fun _ => .nilIface)
  map : MapV anyKit Try.prog 9 wr (w.heap.size + 1) i (place K L (w.heap.size + 2) i) (dist K i)
  row : ∀ j, j < i → wr.rowIs (w.heap.size + 2 + j) 20 (L j) (fun c => fval (X j c))
structure MkOI (w wr : World) (K : Nat → ByteArray) (L : Nat → Nat) (X : Nat → Nat → Nat) (i c : Nat) : Prop where
  since : w.Since w.heap.size wr
  size : wr.heap.size = w.heap.size + 2 + i + 1
  res : wr.rowIs w.heap.size 30 1 (fun _ => .nilIface)
  map : MapV anyKit Try.prog 9 wr (w.heap.size + 1) i (place K L (w.heap.size + 2) i) (dist K i)
  row : ∀ j, j < i → wr.rowIs (w.heap.size + 2 + j) 20 (L j) (fun c => fval (X j c))
  cur : wr.rowIs (w.heap.size + 2 + i) 20 (L i) (fun j => if j < c then fval (X i j) else .nilIface)

theorem mkO_start (w : World) (K : Nat → ByteArray) (L : Nat → Nat) (X : Nat → Nat → Nat) : MkO w ((w.alloc (.cells #[.nilIface] 30)).alloc (.map #[] 0)) K L X 0 := by
  have e : (w.alloc (.cells #[.nilIface] 30)).heap.size = w.heap.size + 1 := by simp
  have h1 := mapV_made anyKit Try.prog 9 (w.alloc (.cells #[.nilIface] 30))
  rw [e] at h1
  refine ⟨((World.Since.refl _ _).alloc (Nat.le_refl _) _).alloc (by simp) _, by simp, (World.rowIs_alloc w #[.nilIface] 30 (fun _ => .nilIface) ?_).alloc _, h1, fun j hj => absurd hj (Nat.not_lt_zero _)⟩
  intro i hi
  have : i = 0 := by simp at hi; omega
  subst this; rfl

theorem mapV_alloc {κ β : Type} {M : MapKit κ β} {P : Program} {k : TypeId} {w : World} {b n sz : Nat} {f : κ → Option β} (h : MapV M P k w b n f sz) (o : Obj) : MapV M P k (w.alloc o) b n f sz :=
  h.of_block (Go.RowKit.Below.heap_alloc w o b h.lt)
theorem mapV_setCell {κ β : Type} {M : MapKit κ β} {P : Program} {k : TypeId} {w : World} {b n sz : Nat} {f : κ → Option β} (h : MapV M P k w b n f sz) {a : Addr} (ha : b ≠ a.block) (v : Value) : MapV M P k (w.setCell a v) b n f sz :=
  h.of_block (Go.RowKit.Below.heap_setCell w a v b ha)

theorem mkOI_start {w wr : World} {K : Nat → ByteArray} {L : Nat → Nat} {X : Nat → Nat → Nat} {i : Nat} (h : MkO w wr K L X i) : MkOI w (wr.alloc (.cells (madeCells #[.nilIface] (L i)) 20)) K L X i 0 := by
  have hnew := World.rowIs_made wr .nilIface (L i) 20
  have hs := h.size
  rw [hs] at hnew
  exact ⟨h.since.alloc (by omega) _, by simp [hs], h.res.alloc _, mapV_alloc h.map _, fun j hj => (h.row j hj).alloc _, hnew.congr (fun i _ => by simp)⟩

theorem mkOI_step {w wi : World} {K : Nat → ByteArray} {L : Nat → Nat} {X : Nat → Nat → Nat} {i c : Nat} (h : MkOI w wi K L X i c) :
    MkOI w (wi.setCell ⟨w.heap.size + 2 + i, c, none⟩ (fval (X i c))) K L X i (c + 1) := by
  refine ⟨h.since.setCell (by show w.heap.size ≤ w.heap.size + 2 + i; omega) _, by simp [h.size], h.res.setOther (by show w.heap.size ≠ w.heap.size + 2 + i; omega) _, mapV_setCell h.map (by show w.heap.size + 1 ≠ w.heap.size + 2 + i; omega) _,
    fun j hj => (h.row j hj).setOther (by show w.heap.size + 2 + j ≠ w.heap.size + 2 + i; omega) _, (h.cur.set c _).congr (fun i _ => ?_)⟩
  by_cases e : i = c
  · subst e; simp
  · rw [if_neg e]
    by_cases hlt : i < c
    · rw [if_pos hlt, if_pos (by omega)]
    · rw [if_neg hlt, if_neg (by omega)]

theorem mkOI_done {w wi w3 : World} {K : Nat → ByteArray} {L : Nat → Nat} {X : Nat → Nat → Nat} {i sz : Nat} (h : MkOI w wi K L X i (L i))
    (hM : MapV anyKit Try.prog 9 w3 (w.heap.size + 1) (i + 1) (upd (place K L (w.heap.size + 2) i) (K i) (w.heap.size + 2 + i, L i)) sz) (hsz : sz = if (place K L (w.heap.size + 2) i (K i)).isSome then dist K i else dist K i + 1) (hg : wi.grownBy w3 (some (w.heap.size + 1))) (hs3 : w3.heap.size = wi.heap.size) :
    MkO w w3 K L X (i + 1) := by
  have hs := h.size
  have hb : ∀ j, j ≠ w.heap.size + 1 → j < wi.heap.size → w3.heap[j]? = wi.heap[j]? := fun j h1 h2 => hg.block j h2 (fun e => h1 (by cases e; rfl))
  refine ⟨h.since.grown hg (by omega) (fun k e => by cases e; omega), by omega, h.res.of_block (hb _ (by omega) (by omega)), ?_, fun j hj => ?_⟩
  · have e : sz = dist K (i + 1) := by
      rw [hsz]
      simp only [dist, place, Option.isSome_map]
    rw [← e]
    refine hM.congr (fun s _ => ?_)
    by_cases es : s = K i
    · subst es; simp [upd, place, lastIdx]
    · simp only [upd, place, lastIdx]
      rw [if_neg es, if_neg (fun e => es e.symm)]
  · by_cases e : j = i
    · subst e
      exact (h.cur.congr (fun c hc => by rw [if_pos hc])).of_block (hb _ (by omega) (by omega))
    · exact (h.row j (by omega)).of_block (hb _ (by omega) (by omega))

set_option maxHeartbeats 1000000 in
theorem mk_obj (kb lb G : Nat) (K : Nat → ByteArray) (A : Nat → Option Addr) (L C RB RO : Nat → Nat) (X : Nat → Nat → Nat) (w : World) (hF : FitsE G K L)
    (hk : w.rowIs kb 9 G (fun i => .string (K i))) (hl : w.rowIs lb 24 G (fun i => .slice (A i) (L i) (C i)))
    (hx : ∀ i, i < G → ∀ c, c < L i → A i = some ⟨RB i, RO i, none⟩ ∧ w.cell? ⟨RB i, RO i + c, none⟩ = some (.float .f64 (X i c))) :
    Calls Try.prog 6 #[.slice (some ⟨kb, 0, none⟩) G G, .slice (some ⟨lb, 0, none⟩) G G] w fun e w' => e = .returned (.agg #[.iface 49 (.map (some (w.heap.size + 1)))]) ∧
      w.Since w.heap.size w' ∧ Obj1 w' (w.heap.size + 1) G (place K L (w.heap.size + 2) G) (dist K G) (lastY K X G) := by
  have hmm := run_makeMap_hint G
  have hG := hF.g
  go_enter Try.func6, Try.ntmps6
  go_wp2_with fail
  clear hmm
  go_loopg [6] G (fun g i wr => ∃ r : Nat, r ≤ G ∧ g = G - r ∧ i = .int .i64 r ∧ MkO w wr K L X r)
  case atStart => exact ⟨0, Nat.zero_le _, rfl, rfl, mkO_start w K L X⟩
  case round =>
    obtain ⟨r, hr, rfl, rfl, hO⟩ := hrel
    by_cases hrG : r < G
    · have hrz : (r : Int) < (G : Int) := by omega
      have hLr := hF.l r hrG
      have g0 := cell_keep hO.since (hl.cell hrG)
      have hmk := run_make_row' (P := Try.prog) 50 20 .nilIface 16 Try.underlying50 Try.info20 rfl .i64 .i64 (L r) (by omega) (by omega)
      have HS : Hid (wr.heap.size = w.heap.size + 2 + r) := hO.size
      go_wp2_with fail
      have hI0 := mkOI_start hO
      clear hmk hO g0
      rw [HS.out]
      go_loopg [8] (L r) (fun g i wi => ∃ c : Nat, c ≤ L r ∧ g = L r - c ∧ i = .int .i64 c ∧ MkOI w wi K L X r c)
      case atStart => exact ⟨0, Nat.zero_le _, rfl, rfl, hI0⟩
      case round =>
        clear hI0 HS
        obtain ⟨c, hc, rfl, rfl, hN⟩ := hrel
        have g0 := cell_keep hN.since (hl.cell hrG)
        by_cases hcL : c < L r
        · have hcz : (c : Int) < (L r : Int) := by omega
          have g1 := cell_keep hN.since (hx r hrG c hcL).2
          rw [(hx r hrG c hcL).1] at g0
          have g3 := hN.cur.cell hcL
          have g4 := hN.cur.frozen c
          simp only [Nat.lt_irrefl, if_false] at g3
          go_wp2_with fail
          go_roundg (L r - (c + 1))
          case measure => go_light; omega
          case rel => go_light; exact ⟨c + 1, by omega, rfl, by go_num, mkOI_step hN⟩
        · obtain rfl : c = L r := by omega
          have g3 := cell_keep hN.since (hk.cell hrG)
          obtain ⟨w3, hup, hM3, hg3, hs3⟩ := hN.map.update anyGood (by unfold maxLen; omega) (x := K r) (by have := hF.k r hrG; unfold anyKit maxLen; simp only; omega) (y := (w.heap.size + 2 + r, L r)) trivial
          simp only [anyKit, arrV] at hup
          have hO' := mkOI_done hN hM3 rfl hg3 hs3
          clear hM3 hg3 hs3 hN
          go_wp2_with fail
          go_roundg (G - (r + 1))
          case measure => go_light; omega
          case rel => go_light; exact ⟨r + 1, by omega, rfl, by go_num, hO'⟩
    · obtain rfl : r = G := by omega
      have g1 := hO.res.cell (i := 0) (by omega)
      have g2 := hO.res.frozen 0
      go_wp2_with fail
      refine bodyPost_ret (v := .agg #[.iface 49 (.map (some (w.heap.size + 1)))]) (by simp [results, Try.results6, go_sem, g1]) rfl ⟨rfl, hO.since.setCell (Nat.le_refl _) _, mapV_setCell hO.map (by show w.heap.size + 1 ≠ w.heap.size; omega) _, fun s hs p hp => ?_⟩
      unfold place at hp
      cases hj : lastIdx K r s with
      | none => rw [hj] at hp; cases hp
      | some j =>
        rw [hj] at hp
        cases hp
        have := (lastIdx_some hj).1
        refine ⟨((hO.row j this).setOther (by show w.heap.size + 2 + j ≠ w.heap.size; omega) _).congr (fun c _ => ?_), hF.l j this⟩
        simp [lastY, hj]

/-! ### ZZB1ObjectLen -/
set_option maxHeartbeats 400000 in
theorem obj_len (m n : Nat) (f : ByteArray → Option (Nat × Nat)) (sz : Nat) (Y : ByteArray → Nat → Nat) (w : World) (hO : Obj1 w m n f sz Y) :
    Calls Try.prog 11 #[.agg #[.iface 49 (.map (some m))]] w fun e w' => e = .returned (.tuple #[.int .i64 sz, .bool true]) ∧ w' = w.alloc (.cells #[.iface 49 (.map (some m))] 30) := by
  have hl := fun o => (mapV_alloc hO.map o).len anyGood 3
  go_enter Try.func11, Try.ntmps11
  go_wp2_with fail
  go_ret2
  exact ⟨rfl, rfl⟩

/-! ### ZZB1NumbersAt -/
theorem Try.info40 : (Try.prog.info? 40).map (fun i => (i.zero, i.size, i.bytes)) = some (some (.float .f64 0), 1, 8) := by kernel_rfl

structure NumAt (w wr : World) (n : Nat) (f : Nat → Nat) (k : Nat) : Prop where
  since : w.Since w.heap.size wr
  size : wr.heap.size = w.heap.size + 2
  row : wr.rowIs (w.heap.size + 1) 40 n (fun j => if j < k then .float .f64 (f j) else .float .f64 0)

theorem numAt_start (w : World) (o : Obj) (n : Nat) (f : Nat → Nat) : NumAt w ((w.alloc o).alloc (.cells (madeCells #[.float .f64 0] n) 40)) n f 0 := by
  have h1 := World.rowIs_made (w.alloc o) (.float .f64 0) n 40
  rw [show (w.alloc o).heap.size = w.heap.size + 1 by simp] at h1
  exact ⟨((World.Since.refl _ _).alloc (Nat.le_refl _) _).alloc (by simp) _, by simp, h1.congr (fun j _ => by simp)⟩

theorem numAt_step {w wr : World} {n : Nat} {f : Nat → Nat} {k : Nat} (h : NumAt w wr n f k) : NumAt w (wr.setCell ⟨w.heap.size + 1, k, none⟩ (.float .f64 (f k))) n f (k + 1) := by
  refine ⟨h.since.setCell (by show w.heap.size ≤ w.heap.size + 1; omega) _, by simp [h.size], (h.row.set k _).congr (fun j _ => ?_)⟩
  by_cases e : j = k
  · subst e; simp
  · rw [if_neg e]
    by_cases hlt : j < k
    · rw [if_pos hlt, if_pos (by omega)]
    · rw [if_neg hlt, if_neg (by omega)]

set_option maxHeartbeats 1000000 in
theorem numbers_at (m n : Nat) (f : ByteArray → Option (Nat × Nat)) (sz : Nat) (Y : ByteArray → Nat → Nat) (s : ByteArray) (b l : Nat) (w : World) (hO : Obj1 w m n f sz Y) (hs : s.size ≤ maxLen) (hf : f s = some (b, l)) :
    Calls Try.prog 9 #[.agg #[.iface 49 (.map (some m))], .string s] w fun e w' => e = .returned (.tuple #[.slice (some ⟨w.heap.size + 1, 0, none⟩) l l, .bool true]) ∧ NumAt w w' l (Y s) l := by
  have hll := (hO.row s hs (b, l) hf).2
  have HR : Hid (w.rowIs b 20 l (fun c => fval (Y s c))) := (hO.row s hs (b, l) hf).1
  have hb : b < w.heap.size := HR.out.lt
  have hlk : ∀ o, (Instr.lookup 49 (.map (some m)) (.string s) false).run Try.prog (w.alloc o) = .ok (.iface 50 (.slice (some ⟨b, 0, none⟩) l l)) (w.alloc o) := fun o => by
    have := (mapV_alloc hO.map o).lookup anyGood (x := s) hs
    rw [hf] at this
    exact this
  have hmk := run_make_row' (P := Try.prog) 24 40 (.float .f64 0) 8 Try.underlying24 Try.info40 rfl .i64 .i64 l (by omega) (by omega)
  simp only at hll
  clear hO hf
  go_enter Try.func9, Try.ntmps9
  go_wp2_with fail
  clear hmk hlk
  go_loopg [10] l (fun g c wr => ∃ k : Nat, k ≤ l ∧ g = l - k ∧ c = .int .i64 k ∧ NumAt w wr l (Y s) k)
  case atStart => exact ⟨0, Nat.zero_le _, rfl, rfl, numAt_start w _ l (Y s)⟩
  case round =>
    obtain ⟨k, hk, rfl, rfl, hO⟩ := hrel
    by_cases hkn : k < l
    · have hkz : (k : Int) < (l : Int) := by omega
      have g1 : wr.cell? ⟨b, k, none⟩ = some (.iface 40 (.float .f64 (Y s k))) := cell_keep hO.since (HR.out.cell hkn)
      have g2 := hO.row.cell hkn
      have g3 := hO.row.frozen k
      simp only [Nat.lt_irrefl, if_false] at g2
      go_wp2_with fail
      go_roundg (l - (k + 1))
      case measure => go_light; omega
      case rel => go_light; exact ⟨k + 1, by omega, rfl, by go_num, numAt_step hO⟩
    · obtain rfl : k = l := by omega
      go_wp2_with fail
      go_ret2
      exact ⟨rfl, hO⟩

/-! ### ZZB1SetNumberAt at place 0 -/
set_option maxHeartbeats 1000000 in
theorem set_number (m n : Nat) (f : ByteArray → Option (Nat × Nat)) (sz : Nat) (Y : ByteArray → Nat → Nat) (s : ByteArray) (b l x : Nat) (w : World) (hO : Obj1 w m n f sz Y) (hs : s.size ≤ maxLen) (hf : f s = some (b, l)) (hl0 : 0 < l) :
    Calls Try.prog 13 #[.agg #[.iface 49 (.map (some m))], .string s, .int .i64 0, .float .f64 x] w fun e w' => e = .returned (.tuple #[]) ∧ w' = (w.setCell ⟨b, 0, none⟩ (fval x)).alloc (.cells #[.iface 49 (.map (some m))] 30) := by
  have hll := (hO.row s hs (b, l) hf).2
  have HR := (hO.row s hs (b, l) hf).1
  have hb : b < w.heap.size := HR.lt
  have g1 : w.cell? ⟨b, 0, none⟩ = some (.iface 40 (.float .f64 (Y s 0))) := HR.cell hl0
  have g2 := HR.frozen 0
  have hlk : ∀ o, (Instr.lookup 49 (.map (some m)) (.string s) false).run Try.prog (w.alloc o) = .ok (.iface 50 (.slice (some ⟨b, 0, none⟩) l l)) (w.alloc o) := fun o => by
    have := (mapV_alloc hO.map o).lookup anyGood (x := s) hs
    rw [hf] at this
    exact this
  simp only at hll
  have hz1 : (0 : Int) < (l : Int) := by omega
  clear hO hf HR
  go_enter Try.func13, Try.ntmps13
  go_wp2_with fail
  go_end0
  exact ⟨rfl, rfl⟩

/-! ### ZZB1PutEmptyArray -/
set_option maxHeartbeats 1000000 in
theorem put_empty (m n : Nat) (f : ByteArray → Option (Nat × Nat)) (sz : Nat) (Y : ByteArray → Nat → Nat) (s : ByteArray) (w : World) (hn : n ≤ 1048576) (hO : Obj1 w m n f sz Y) (hs : s.size ≤ maxLen) (hf : f s = none) :
    Calls Try.prog 12 #[.agg #[.iface 49 (.map (some m))], .string s] w fun e w' => e = .returned (.tuple #[]) ∧ Obj1 w' m (n + 1) (upd f s (w.heap.size + 1, 0)) (sz + 1) Y ∧ w.grownBy w' (some m) := by
  have hnn := fun w => run_neq_map_nil (P := Try.prog) w 49 9 20 (some m) Try.underlying49
  have hm := hO.map.lt
  have hM2 := mapV_alloc (mapV_alloc hO.map (.cells #[.iface 49 (.map (some m))] 30)) (.cells #[] 20)
  obtain ⟨w3, hup, hM3, hg3, hs3⟩ := hM2.update anyGood (by unfold maxLen; omega) (x := s) hs (y := (w.heap.size + 1, 0)) trivial
  simp only [anyKit, arrV] at hup
  have hS2 : w.Since w.heap.size ((w.alloc (.cells #[.iface 49 (.map (some m))] 30)).alloc (.cells #[] 20)) := ((World.Since.refl _ _).alloc (Nat.le_refl _) _).alloc (by simp) _
  have hz2 : ((w.alloc (.cells #[.iface 49 (.map (some m))] 30)).alloc (.cells #[] 20)).heap.size = w.heap.size + 2 := by simp
  have hN : ((w.alloc (.cells #[.iface 49 (.map (some m))] 30)).alloc (.cells #[] 20)).rowIs (w.heap.size + 1) 20 0 (fun c => fval (Y s c)) := by
    have := World.rowIs_alloc (w.alloc (.cells #[.iface 49 (.map (some m))] 30)) #[] 20 (fun c => fval (Y s c)) (fun i hi => absurd hi (Nat.not_lt_zero _))
    rw [show (w.alloc (.cells #[.iface 49 (.map (some m))] 30)).heap.size = w.heap.size + 1 by simp] at this
    exact this
  generalize hW2 : (w.alloc (.cells #[.iface 49 (.map (some m))] 30)).alloc (.cells #[] 20) = W2 at *
  have hb : ∀ i, i ≠ m → i < W2.heap.size → w3.heap[i]? = W2.heap[i]? := fun i h1 h2 => hg3.block i h2 (fun e => h1 (by cases e; rfl))
  have hO3 : Obj1 w3 m (n + 1) (upd f s (w.heap.size + 1, 0)) (sz + 1) Y := by
    refine ⟨?_, fun z hz p hp => ?_⟩
    · rw [hf] at hM3
      exact hM3
    · by_cases e : z = s
      · subst e
        rw [upd_same] at hp
        cases hp
        exact ⟨hN.of_block (hb _ (by omega) (by omega)), by show 0 ≤ _; omega⟩
      · rw [upd_other _ _ e] at hp
        have h1 := hO.row z hz p hp
        have hne : p.1 ≠ m := fun e2 => by
          obtain ⟨D, ⟨es, clock, hbm, _⟩, _⟩ := hO.map
          obtain ⟨c, hc, _⟩ := h1.1
          rw [e2, hbm] at hc
          cases hc
        exact ⟨(h1.1.of_block (hS2.block _ h1.1.lt)).of_block (hb _ hne (by have := h1.1.lt; omega)), h1.2⟩
  have hS3 : w.grownBy w3 (some m) := ⟨hg3.os.trans hS2.os, hg3.tape.trans hS2.tape, hg3.output.trans hS2.output, Nat.le_trans hS2.size hg3.size, fun i hi hne => (hg3.block i (by omega) hne).trans (hS2.block i hi)⟩
  clear hM3 hg3 hs3 hM2 hO hN hb hS2 hz2
  rw [← hW2] at hup
  clear hW2
  go_enter Try.func12, Try.ntmps12
  go_wp2_with fail
  go_end0
  exact ⟨rfl, hO3, hS3⟩

end Go.Proofs.Qxb6618627a
