/-
  leeway: zzDeps (30), zzDepsMatch (33).
-/
import Derived.Test.Qxb6618655aHex
namespace Go.Proofs.Qxb6618655a
open Go.RowKit Go.Lib
set_option linter.unusedVariables false

/-- One read, as it came in. -/
structure RD where
  key : ByteArray
  ida : Option Addr
  idl : Nat
  idc : Nat
  idb : Nat
  ido : Nat
  ids : Nat → ByteArray
  ta : Option Addr
  tl : Nat
  tc : Nat
  tb : Nat
  to : Nat
  ts : Nat → Int
  dig : ByteArray

/-- What holds of it in memory, and how large it is. -/
structure RD.In (d : RD) (w : World) : Prop where
  ids : Keys w d.ida d.idb d.ido d.idl d.ids
  tim : Vals w d.ta d.tb d.to d.tl d.ts
  nil : d.ida = none → d.idl = 0
structure RD.Fit (d : RD) : Prop where
  key : d.key.size ≤ 1048576
  idl : d.idl ≤ 1048576
  ids : ∀ i, i < d.idl → (d.ids i).size ≤ 1048576
  tl : d.tl = d.idl
  dig : d.dig.size ≤ 1048576

theorem RD.In.since {d : RD} {w w' : World} (h : d.In w) (hs : w.Since w.heap.size w') : d.In w' := ⟨h.ids.since hs, h.tim.since hs, h.nil⟩

/-- The map of the read's depends, or none. -/
def DepOK (w : World) (v : Value) (d : RD) : Prop := (d.ida = none ∧ v = .map none) ∨ ((∃ a, d.ida = some a) ∧ ∃ b sz, v = .map (some b) ∧ IM w b d.idl (known d.ids d.ts d.idl) sz)

theorem DepOK.since {d : RD} {v : Value} {w w' : World} (h : DepOK w v d) (hs : w.Since w.heap.size w') : DepOK w' v d := by
  rcases h with h | ⟨ha, b, sz, rfl, hm⟩
  · exact Or.inl h
  · exact Or.inr ⟨ha, b, sz, rfl, hm.of_block (hs.block _ hm.lt)⟩

theorem eql28 (a : Option Addr) (n c : Nat) (w : World) : (binOp .eql 28 (.slice a n c) (.slice none 0 0)).run Try.prog w = .ok (.bool a.isNone) w := Lib.run_eql_slice_nil w 28 9 a n c 0 0 Try.underlying28
theorem eql59 (a : Option Addr) (n c : Nat) (w : World) : (binOp .eql 59 (.slice a n c) (.slice none 0 0)).run Try.prog w = .ok (.bool a.isNone) w := Lib.run_eql_slice_nil w 59 5 a n c 0 0 Try.underlying59
theorem eql32 (r : Option Nat) (w : World) : (binOp .eql 32 (.map r) (.map none)).run Try.prog w = .ok (.bool r.isNone) w := run_eql_map_nil w 32 9 2 r Try.underlying32
attribute [local go_sem] eql28 eql32

/-- What zzDeps answers. -/
def DepsPost (d : RD) (w : World) (e : Ending) (w' : World) : Prop := ∃ v, e = .returned v ∧ DepOK w' v d ∧ w.Since w.heap.size w'

structure DepsAt (w wr : World) (d : RD) (i sz : Nat) : Prop where
  since : w.Since w.heap.size wr
  map : IM wr (w.heap.size + 1) i (known d.ids d.ts i) sz
  box : wr.rowIs w.heap.size 56 4 (fun j => if j = 0 then .string d.key else if j = 1 then .slice d.ida d.idl d.idc else if j = 2 then .slice d.ta d.tl d.tc else .string d.dig)
  size : w.heap.size + 1 < wr.heap.size

theorem deps_start (w : World) (d : RD) : DepsAt w ((w.alloc (.cells #[.string d.key, .slice d.ida d.idl d.idc, .slice d.ta d.tl d.tc, .string d.dig] 56)).alloc (.map #[] 0)) d 0 0 := by
  have h1 := mapV_made intKit Try.prog 9 (w.alloc (.cells #[.string d.key, .slice d.ida d.idl d.idc, .slice d.ta d.tl d.tc, .string d.dig] 56))
  rw [show (w.alloc (.cells #[.string d.key, .slice d.ida d.idl d.idc, .slice d.ta d.tl d.tc, .string d.dig] 56)).heap.size = w.heap.size + 1 by simp] at h1
  refine ⟨((World.Since.refl _ _).alloc (Nat.le_refl _) _).alloc (by simp) _, h1, (World.rowIs_alloc w #[.string d.key, .slice d.ida d.idl d.idc, .slice d.ta d.tl d.tc, .string d.dig] 56 _ ?_).alloc _, by simp⟩
  intro i hi
  have : i = 0 ∨ i = 1 ∨ i = 2 ∨ i = 3 := by simp at hi; omega
  rcases this with rfl | rfl | rfl | rfl <;> rfl

set_option maxHeartbeats 1000000 in
set_option maxRecDepth 100000 in
theorem deps_any (d : RD) (w : World) (hI : d.In w) (hF : d.Fit) :
    Calls Try.prog 30 #[.agg #[.string d.key, .slice d.ida d.idl d.idc, .slice d.ta d.tl d.tc, .string d.dig]] w (DepsPost d w) := by
  cases hn : d.ida with
  | none =>
    go_enter Try.func30, Try.ntmps30
    go_wp2_with fail
    go_ret
    exact ⟨_, rfl, Or.inl ⟨hn, rfl⟩, (World.Since.refl _ _).alloc (Nat.le_refl _) _⟩
  | some a =>
    have h0 := deps_start w d
    have HN : Hid (d.ida = some a) := hn
    have hmm := run_makeMap_hint d.idl
    have hil := hF.idl
    rw [hn] at h0
    clear hn
    go_enter Try.func30, Try.ntmps30
    go_wp2_with fail
    clear hmm
    go_loopg [4] d.idl (fun g n wr => ∃ i sz : Nat, i ≤ d.idl ∧ g = d.idl - i ∧ n = .int .i64 i ∧ DepsAt w wr d i sz)
    case atStart => go_light; exact ⟨0, 0, Nat.zero_le _, rfl, rfl, h0⟩
    case round =>
      clear h0
      obtain ⟨i, sz, hi, rfl, rfl, hB⟩ := hrel
      have k1 : wr.cell? ⟨w.heap.size, 1, none⟩ = some (.slice d.ida d.idl d.idc) := hB.box.cell (by omega)
      have k2 : wr.cell? ⟨w.heap.size, 2, none⟩ = some (.slice d.ta d.tl d.tc) := hB.box.cell (by omega)
      by_cases hiG : i < d.idl
      · have hiz : (i : Int) < (d.idl : Int) := by omega
        have hit : (i : Int) < (d.tl : Int) := by rw [hF.tl]; omega
        have hiz0 : (0 : Int) ≤ (i : Int) := by omega
        have g0 := (hI.ids.since hB.since).cell i hiG
        have g1 := ((hI.tim.since hB.since).cell i (by rw [hF.tl]; exact hiG)).1
        have hM1 : IM wr.drew (w.heap.size + 1) i (known d.ids d.ts i) sz := hB.map
        obtain ⟨w3, hup, hM3, hg3, hs3⟩ := hM1.update good32 (by unfold maxLen; omega) (x := d.ids i) (by have := hF.ids i hiG; unfold intKit maxLen; simp only; omega) (y := d.ts i) (hI.tim.cell i (by rw [hF.tl]; exact hiG)).2
        simp only [intKit] at hup
        rw [hI.ids.ga (by omega)] at k1
        rw [hI.tim.va (by rw [hF.tl]; omega)] at k2
        have n0 : d.idb ≠ w.heap.size + 1 := by have := cell_blk (hI.ids.cell i hiG); omega
        have n1 : d.tb ≠ w.heap.size + 1 := by have := cell_blk (hI.tim.cell i (by rw [hF.tl]; exact hiG)).1; omega
        have hb : ∀ {b o : Nat} {v : Value}, b ≠ w.heap.size + 1 → wr.cell? ⟨b, o, none⟩ = some v → w3.cell? ⟨b, o, none⟩ = some v := fun {b o v} hne h => by
          rw [World.cell?_of_block (w := wr) (hg3.block b (cell_blk h) (fun e => hne (by cases e; rfl)))]; exact h
        have q0 := hb n0 g0
        have q1 := hb n1 g1
        have q2 := hb (by omega) k1
        have q3 := hb (by omega) k2
        have hB' : DepsAt w w3 d (i + 1) _ := ⟨hB.since.drew.grown hg3 hB.since.size (fun k e => by cases e; omega), hM3, hB.box.of_block (hg3.block _ hB.box.lt (fun e => by simp at e)), by rw [hs3]; exact hB.size⟩
        clear hM1 hM3 hg3 hs3 hB n0 n1 hb
        go_wp2_with fail
        go_region_held3 (fun w' => w'.cell? ⟨w.heap.size, 1, none⟩ = some (.slice (some ⟨d.idb, d.ido, none⟩) d.idl d.idc) ∧ w'.cell? ⟨w.heap.size, 2, none⟩ = some (.slice (some ⟨d.tb, d.to, none⟩) d.tl d.tc) ∧ w'.cell? ⟨d.idb, d.ido + i, none⟩ = some (.string (d.ids i)) ∧ w'.cell? ⟨d.tb, d.to + i, none⟩ = some (.int .i64 (d.ts i))) (first | go_keep | exact ⟨q2, q3, q0, q1⟩) (fail)
        go_wp2_with fail
        go_roundg (d.idl - (i + 1))
        case measure => go_light; omega
        case rel => go_light; exact ⟨i + 1, _, by omega, rfl, by go_num, hB'⟩
      · have hie : i = d.idl := by omega
        have hiz : ¬ (i : Int) < (d.idl : Int) := by omega
        have HE : Hid (i = d.idl) := hie
        clear hie
        go_wp2_with fail
        go_ret
        refine ⟨_, rfl, Or.inr ⟨⟨a, HN.out⟩, _, sz, rfl, ?_⟩, hB.since⟩
        have := hB.map
        rw [HE.out] at this
        exact this


/-! ### zzDepsMatch -/
def RDcell (d : RD) (j : Nat) : Value := if j = 0 then .string d.key else if j = 1 then .slice d.ida d.idl d.idc else if j = 2 then .slice d.ta d.tl d.tc else .string d.dig
theorem rd_box (w : World) (d : RD) : (w.alloc (.cells #[.string d.key, .slice d.ida d.idl d.idc, .slice d.ta d.tl d.tc, .string d.dig] 56)).rowIs w.heap.size 56 4 (RDcell d) := by
  refine World.rowIs_alloc w #[.string d.key, .slice d.ida d.idl d.idc, .slice d.ta d.tl d.tc, .string d.dig] 56 _ ?_
  intro i hi
  have : i = 0 ∨ i = 1 ∨ i = 2 ∨ i = 3 := by simp at hi; omega
  rcases this with rfl | rfl | rfl | rfl <;> rfl

theorem size_eq {w w' : World} {b n sz b' n' sz' : Nat} {f : ByteArray → Option Int} (h : IM w b n f sz) (h' : IM w' b' n' f sz') : sz = sz' :=
  Nat.le_antisymm (h.size_le good32 h' good32 (fun _ => rfl) (fun _ h => h) (fun _ _ h => h)) (h'.size_le good32 h good32 (fun _ => rfl) (fun _ h => h) (fun _ _ h => h))

theorem IM.look1 {w : World} {b n sz : Nat} {f : ByteArray → Option Int} (h : IM w b n f sz) {s : ByteArray} (hs : s.size ≤ maxLen) : (Instr.lookup 32 (.map (some b)) (.string s) false).run Try.prog w = .ok (.int .i64 ((f s).getD 0)) w := by
  have := h.lookup good32 (x := s) hs
  cases hf : f s with
  | none => rw [hf] at this; exact this
  | some y => rw [hf] at this; exact this

theorem known_has {K : Nat → ByteArray} {V : Nat → Int} : ∀ {n i : Nat}, i < n → (known K V n (K i)).isSome = true
  | 0, _, h => absurd h (Nat.not_lt_zero _)
  | n + 1, i, h => by
    unfold known
    by_cases e : K i = K n
    · rw [e, upd_same]; rfl
    · rw [upd_other _ _ e]
      have : i ≠ n := fun h' => e (by rw [h'])
      exact known_has (by omega)

def TrueS (w : World) (e : Ending) (w' : World) : Prop := e = .returned (.bool true) ∧ w.Since w.heap.size w'

set_option maxHeartbeats 1000000 in
set_option maxRecDepth 100000 in
theorem deps_match (d : RD) (v : Value) (w : World) (hI : d.In w) (hF : d.Fit) (hv : DepOK w v d) :
    Calls Try.prog 33 #[v, .agg #[.string d.key, .slice d.ida d.idl d.idc, .slice d.ta d.tl d.tc, .string d.dig]] w (TrueS w) := by
  have hsb : w.Since w.heap.size (w.alloc (.cells #[.string d.key, .slice d.ida d.idl d.idc, .slice d.ta d.tl d.tc, .string d.dig] 56)) := (World.Since.refl _ _).alloc (Nat.le_refl _) _
  have hbx := rd_box w d
  have hlt : w.heap.size < (w.alloc (.cells #[.string d.key, .slice d.ida d.idl d.idc, .slice d.ta d.tl d.tc, .string d.dig] 56)).heap.size := by simp
  rcases hv with ⟨hn, rfl⟩ | ⟨⟨a, ha⟩, b, sz, rfl, hm⟩
  · have HN : Hid (d.ida = none) := hn
    have H0 : Hid (d.idl = 0) := hI.nil hn
    clear hn
    go_enter Try.func33, Try.ntmps33
    go_wp2_with fail
    refine (deps_any d _ (hI.since hsb) hF).mono ?_
    generalize w.alloc (.cells #[.string d.key, .slice d.ida d.idl d.idc, .slice d.ta d.tl d.tc, .string d.dig] 56) = W at *
    rintro e w2 ⟨v2, rfl, hd2, s2⟩
    rcases hd2 with ⟨_, rfl⟩ | ⟨⟨a, ha⟩, _⟩
    · have s3 := hsb.trans (since_mono s2 hsb.size)
      have k1 : w2.cell? ⟨w.heap.size, 1, none⟩ = some (.slice d.ida d.idl d.idc) := cell_keep s2 (hbx.cell (by omega))
      have hl := fun w => Go.Maps.len_nil (P := Try.prog) (w := w) (k := 9) Try.underlying32 3
      have hk := k1
      rw [H0.out, HN.out] at hk
      clear hbx s2 hsb k1
      go_wp2_with fail
      go_loopg [6] 1 (fun g n wr => w2 = wr ∧ n = .int .i64 0)
      case atStart => go_light; exact ⟨rfl, rfl⟩
      case round =>
        obtain ⟨rfl, rfl⟩ := hrel
        go_wp2_with fail
        go_ret
        exact ⟨rfl, s3⟩
    · rw [HN.out] at ha; cases ha
  · have HA : Hid (d.ida = some a) := ha
    clear ha
    go_enter Try.func33, Try.ntmps33
    go_wp2_with fail
    refine (deps_any d _ (hI.since hsb) hF).mono ?_
    have hmW := mapV_alloc hm (.cells #[.string d.key, .slice d.ida d.idl d.idc, .slice d.ta d.tl d.tc, .string d.dig] 56)
    generalize w.alloc (.cells #[.string d.key, .slice d.ida d.idl d.idc, .slice d.ta d.tl d.tc, .string d.dig] 56) = W at *
    rintro e w2 ⟨v2, rfl, hd2, s2⟩
    rcases hd2 with ⟨hn, _⟩ | ⟨_, b2, sz2, rfl, hm2⟩
    · have ha := HA.out; rw [hn] at ha; cases ha
    · have s3 := hsb.trans (since_mono s2 hsb.size)
      have hm3 : IM w2 b d.idl (known d.ids d.ts d.idl) sz := hmW.of_block (s2.block _ hmW.lt)
      obtain rfl := size_eq hm3 hm2
      have k1 : w2.cell? ⟨w.heap.size, 1, none⟩ = some (.slice d.ida d.idl d.idc) := cell_keep s2 (hbx.cell (by omega))
      have l1 := hm3.len good32 3
      have l2 := hm2.len good32 3
      have hil := hF.idl
      clear hbx s2 hmW hm hsb
      go_wp2_with fail
      clear l1 l2
      go_loopg [6] d.idl (fun g n wr => w2 = wr ∧ ∃ i : Nat, i ≤ d.idl ∧ g = d.idl - i ∧ n = .int .i64 i)
      case atStart => go_light; exact ⟨rfl, 0, Nat.zero_le _, rfl, rfl⟩
      case round =>
        obtain ⟨rfl, i, hi, rfl, rfl⟩ := hrel
        by_cases hiG : i < d.idl
        · have hiz : (i : Int) < (d.idl : Int) := by omega
          have g0 := (hI.ids.since s3).cell i hiG
          rw [hI.ids.ga (by omega)] at k1
          have hKi : (d.ids i).size ≤ maxLen := by have := hF.ids i hiG; unfold maxLen; omega
          have q1 := hm3.look hKi
          have q2 := hm2.look1 hKi
          have q3 := known_has (K := d.ids) (V := d.ts) hiG
          generalize (known d.ids d.ts d.idl (d.ids i)).getD 0 = x at *
          generalize (known d.ids d.ts d.idl (d.ids i)).isSome = o at *
          subst q3
          go_wp2_with fail
          go_roundg (d.idl - (i + 1))
          case measure => go_light; omega
          case rel => go_light; exact ⟨rfl, i + 1, by omega, rfl, by go_num⟩
        · have hiz : ¬ (i : Int) < (d.idl : Int) := by omega
          go_wp2_with fail
          go_ret
          exact ⟨rfl, s3⟩

end Go.Proofs.Qxb6618655a
