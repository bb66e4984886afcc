/-
  leeway: THE MAPS (string keys, int64 elements); zzBuildKnown (12), lackOwn (28), ZZlackOwn (13), zzLesser (14), zzGreater (15), zzSameAt (16).
-/
import Derived.Test.Qxb6618655aProg
import Derived.Test.Qxb6618655aMapV
import Derived.WalkKit
import Derived.WalkLawsBesides
import Derived.WalkSpells
import Derived.Deep.LoopGhost
import Derived.Deep.OwnRows
import Derived.Deep.Light
import Derived.Deep.QuietTactic
import Derived.BigQuiet
import Derived.Deep.RegionHeld3
namespace Go.Proofs.Qxb6618655a
open Go.RowKit
set_option linter.unusedVariables false

def i64 (x : Int) : Value := .int .i64 x

def intR : Value → Option (DataW Unit × List MemPlace)
  | .int k x => if k = .i64 ∧ (Lit.int .i64 x).wf = true then some (.lit (.int .i64 x), []) else none
  | _ => none

theorem intR_mk {x : Int} (h : (Lit.int .i64 x).wf = true) : intR (.int .i64 x) = some (.lit (.int .i64 x), []) := by simp [intR, h]
theorem intR_inv {v : Value} {d : DataW Unit} {ps : List MemPlace} (h : intR v = some (d, ps)) : ∃ x, v = .int .i64 x ∧ d = .lit (.int .i64 x) := by
  unfold intR at h
  split at h
  · split at h
    · rename_i k x hc
      obtain ⟨rfl, _⟩ := hc
      cases h
      exact ⟨x, rfl, rfl⟩
    · cases h
  · cases h

def intKit : MapKit ByteArray Int where
  mkK := fun s => .string s
  lit := fun s => .string s.data.toList
  Ok := fun s => s.size ≤ maxLen
  mkV := fun x => .int .i64 x
  dat := fun x => .lit (.int .i64 x)
  OkV := fun x => (Lit.int .i64 x).wf = true
  R := intR
  zero := .int .i64 0
  zd := .lit (.int .i64 0)

theorem string_inv {P : Program} {k : TypeId} (hk : P.underlying k = some .string) {v : Value} {l : Lit} (h : keyOf P k v = some l) : ∃ s : ByteArray, s.size ≤ maxLen ∧ v = .string s ∧ l = .string s.data.toList := by
  cases v <;> simp [keyOf, hk, mapKey] at h
  rename_i s
  exact ⟨s, h.1, rfl, h.2.symm⟩

theorem bytes_inj {a b : ByteArray} (h : a.data.toList = b.data.toList) : a = b := by
  apply ByteArray.ext
  exact Array.toList_inj.1 h

theorem intGood_of {t : TypeId} (ht : Try.prog.underlying t = some (.map 9 2)) : intKit.Good Try.prog t 9 2 where
  law := Go.Maps.string_keyed Try.underlying9
  ht := ht
  hz := fun w => by kernel_rfl
  hzd := intR_mk (x := 0) (by decide)
  key := fun x hx => Go.WideMaps.keyOf_string_mk Try.underlying9 hx
  keyInv := fun v l h => string_inv Try.underlying9 h
  litInj := fun x y _ _ h => bytes_inj (by simpa [intKit] using h)
  elem := fun y hy => intR_mk hy
  rinj := fun v v' d ps ps' h h' => by
    obtain ⟨a, rfl, rfl⟩ := intR_inv h
    obtain ⟨a', rfl, ha'⟩ := intR_inv h'
    simp only [DataW.lit.injEq, Lit.int.injEq, true_and] at ha'
    rw [ha']

theorem good32 : intKit.Good Try.prog 32 9 2 := intGood_of Try.underlying32
theorem good79 : intKit.Good Try.prog 79 9 2 := intGood_of Try.underlying79

theorem run_makeMap_hint (n : Nat) (w : World) : (Instr.makeMap 32 (some (.int .i64 (n : Int)))).run Try.prog w = .ok (.map (some w.heap.size)) (w.alloc (.map #[] 0)) := by
  simp [Instr.makeMap, asInt, asIntOf, Result.andThen]

theorem since_mono {B B' : Nat} {w w' : World} (h : w.Since B w') (hB : B' ≤ B) : w.Since B' w' := ⟨h.os, h.tape, h.output, h.size, fun k hk => h.block k (Nat.lt_of_lt_of_le hk hB)⟩
theorem since_drewN {B : Nat} {w w' : World} (h : w.Since B w') (n : Nat) : w.Since B (w'.drewN n) := ⟨h.os, h.tape, h.output, h.size, h.block⟩
theorem cell_keep {w w' : World} (hs : w.Since w.heap.size w') {b o : Nat} {v : Value} (h : w.cell? ⟨b, o, none⟩ = some v) : w'.cell? ⟨b, o, none⟩ = some v := by
  rw [hs.cell (a := ⟨b, o, none⟩) (World.block_lt_of_cell? _ _ h)]; exact h
theorem cell_blk {w : World} {b o : Nat} {v : Value} (h : w.cell? ⟨b, o, none⟩ = some v) : b < w.heap.size := World.block_lt_of_cell? _ _ h

/-! ### zzLesser, zzGreater -/
def lesser (a b : Int) : Int := if a < b then a else b
def greater (a b : Int) : Int := if b < a then a else b

set_option maxHeartbeats 400000 in
theorem lesser_any (a b : Int) (w : World) : Calls Try.prog 14 #[.int .i64 a, .int .i64 b] w fun e w' => e = .returned (.int .i64 (lesser a b)) ∧ w' = w := by
  unfold lesser
  by_cases h : a < b
  · rw [if_pos h]
    go_enter Try.func14, Try.ntmps14
    go_wp2_with fail
    go_ret
    exact ⟨rfl, rfl⟩
  · rw [if_neg h]
    go_enter Try.func14, Try.ntmps14
    go_wp2_with fail
    go_ret
    exact ⟨rfl, rfl⟩

set_option maxHeartbeats 400000 in
theorem greater_any (a b : Int) (w : World) : Calls Try.prog 15 #[.int .i64 a, .int .i64 b] w fun e w' => e = .returned (.int .i64 (greater a b)) ∧ w' = w := by
  unfold greater
  by_cases h : b < a
  · rw [if_pos h]
    go_enter Try.func15, Try.ntmps15
    go_wp2_with fail
    go_ret
    exact ⟨rfl, rfl⟩
  · rw [if_neg h]
    go_enter Try.func15, Try.ntmps15
    go_wp2_with fail
    go_ret
    exact ⟨rfl, rfl⟩

/-! ### zzSameAt -/
abbrev IM (w : World) (b n : Nat) (f : ByteArray → Option Int) (sz : Nat) : Prop := MapV intKit Try.prog 9 w b n f sz

theorem IM.look {w : World} {b n sz : Nat} {f : ByteArray → Option Int} (h : IM w b n f sz) {s : ByteArray} (hs : s.size ≤ maxLen) : (Instr.lookup 32 (.map (some b)) (.string s) true).run Try.prog w = .ok (.tuple #[.int .i64 ((f s).getD 0), .bool (f s).isSome]) w := by
  have := h.lookup_ok good32 (x := s) hs
  cases hf : f s with
  | none => rw [hf] at this; exact this
  | some y => rw [hf] at this; exact this

set_option maxHeartbeats 400000 in
theorem same_at (b1 n1 sz1 b2 n2 sz2 : Nat) (f1 f2 : ByteArray → Option Int) (s : ByteArray) (w : World) (h1 : IM w b1 n1 f1 sz1) (h2 : IM w b2 n2 f2 sz2) (hs : s.size ≤ maxLen) (he : f1 s = f2 s) :
    Calls Try.prog 16 #[.map (some b1), .map (some b2), .string s] w fun e w' => e = .returned (.bool true) ∧ w' = w := by
  have l1 := h1.look hs
  have l2 := h2.look hs
  rw [he] at l1
  generalize (f2 s).getD 0 = v at *
  generalize (f2 s).isSome = o at *
  clear h1 h2 he
  go_enter Try.func16, Try.ntmps16
  go_wp2_with fail
  go_ret
  exact ⟨rfl, rfl⟩


theorem mapV_alloc {κ β : Type} {M : MapKit κ β} {P : Program} {k : TypeId} {w : World} {b n sz : Nat} {f : κ → Option β} (h : MapV M P k w b n f sz) (o : Obj) : MapV M P k (w.alloc o) b n f sz :=
  h.of_block (Go.RowKit.Below.heap_alloc w o b h.lt)

/-! ### zzBuildKnown -/
/-- The arguments: keys and values. -/
structure Keys (w : World) (ga : Option Addr) (gb go G : Nat) (K : Nat → ByteArray) : Prop where
  ga : 0 < G → ga = some ⟨gb, go, none⟩
  cell : ∀ i, i < G → w.cell? ⟨gb, go + i, none⟩ = some (.string (K i))
structure Vals (w : World) (va : Option Addr) (vb vo G : Nat) (V : Nat → Int) : Prop where
  va : 0 < G → va = some ⟨vb, vo, none⟩
  cell : ∀ i, i < G → w.cell? ⟨vb, vo + i, none⟩ = some (.int .i64 (V i)) ∧ (Lit.int .i64 (V i)).wf = true

theorem Keys.since {w w' : World} {ga : Option Addr} {gb go G : Nat} {K : Nat → ByteArray} (h : Keys w ga gb go G K) (hs : w.Since w.heap.size w') : Keys w' ga gb go G K :=
  ⟨h.ga, fun i hi => cell_keep hs (h.cell i hi)⟩
theorem Vals.since {w w' : World} {va : Option Addr} {vb vo G : Nat} {V : Nat → Int} (h : Vals w va vb vo G V) (hs : w.Since w.heap.size w') : Vals w' va vb vo G V :=
  ⟨h.va, fun i hi => ⟨cell_keep hs (h.cell i hi).1, (h.cell i hi).2⟩⟩

/-- What the map holds when i pairs are laid. -/
def known (K : Nat → ByteArray) (V : Nat → Int) : Nat → ByteArray → Option Int
  | 0 => fun _ => none
  | i + 1 => upd (known K V i) (K i) (V i)

structure BuildAt (w wr : World) (K : Nat → ByteArray) (V : Nat → Int) (i sz : Nat) : Prop where
  since : w.Since w.heap.size wr
  map : IM wr w.heap.size i (known K V i) sz
  size : w.heap.size < wr.heap.size

theorem sz_le {w : World} {b n sz : Nat} {f : ByteArray → Option Int} (h : IM w b n f sz) : sz ≤ n := h.le

set_option maxHeartbeats 1000000 in
theorem build_any (ga : Option Addr) (gb go G Gc : Nat) (K : Nat → ByteArray) (va : Option Addr) (vb vo Vc : Nat) (V : Nat → Int) (w : World) (hG : G ≤ 1048576) (hK : ∀ i, i < G → (K i).size ≤ 1048576) (hk : Keys w ga gb go G K) (hv : Vals w va vb vo G V) :
    Calls Try.prog 12 #[.slice ga G Gc, .slice va G Vc] w fun e w' => e = .returned (.map (some w.heap.size)) ∧ ∃ sz, BuildAt w w' K V G sz := by
  have hmm := run_makeMap_hint G
  go_enter Try.func12, Try.ntmps12
  go_wp2_with fail
  clear hmm
  go_loopg [6] G (fun g n wr => ∃ i sz : Nat, i ≤ G ∧ g = G - i ∧ n = .int .i64 i ∧ BuildAt w wr K V i sz)
  case atStart => exact ⟨0, 0, Nat.zero_le _, rfl, rfl, (World.Since.refl _ _).alloc (Nat.le_refl _) _, mapV_made intKit Try.prog 9 w, by simp⟩
  case round =>
    obtain ⟨i, sz, hi, rfl, rfl, hB⟩ := hrel
    by_cases hiG : i < G
    · obtain rfl := hk.ga (by omega)
      obtain rfl := hv.va (by omega)
      have hiz : (i : Int) < (G : Int) := by omega
      have hiz0 : (0 : Int) ≤ (i : Int) := by omega
      have g0 := (hk.since hB.since).cell i hiG
      have g1 := ((hv.since hB.since).cell i hiG).1
      have hM1 : IM wr.drew w.heap.size i (known K V i) sz := hB.map
      obtain ⟨w3, hup, hM3, hg3, hs3⟩ := hM1.update good32 (by unfold maxLen; omega) (x := K i) (by have := hK i hiG; unfold intKit maxLen; simp only; omega) (y := V i) (hv.cell i hiG).2
      simp only [intKit] at hup
      have n0 : gb ≠ w.heap.size := by have := cell_blk (hk.cell i hiG); omega
      have n1 : vb ≠ w.heap.size := by have := cell_blk (hv.cell i hiG).1; omega
      have q0 : w3.cell? ⟨gb, go + i, none⟩ = some (.string (K i)) := by rw [World.cell?_of_block (w := wr) (hg3.block gb (cell_blk g0) (fun e => n0 (by cases e; rfl)))]; exact g0
      have q1 : w3.cell? ⟨vb, vo + i, none⟩ = some (.int .i64 (V i)) := by rw [World.cell?_of_block (w := wr) (hg3.block vb (cell_blk g1) (fun e => n1 (by cases e; rfl)))]; exact g1
      have hB' : BuildAt w w3 K V (i + 1) _ := ⟨hB.since.drew.grown hg3 hB.since.size (fun k e => by cases e; exact Nat.le_refl _), hM3, by rw [hs3]; exact hB.size⟩
      clear hM1 hM3 hg3 hs3 hB n0 n1
      go_wp2_with fail
      go_region_held3 (fun w' => w'.cell? ⟨gb, go + i, none⟩ = some (.string (K i)) ∧ w'.cell? ⟨vb, vo + i, none⟩ = some (.int .i64 (V i))) (first | go_keep | exact ⟨q0, q1⟩) (fail)
      go_wp2_with fail
      go_roundg (G - (i + 1))
      case measure => go_light; omega
      case rel => go_light; exact ⟨i + 1, _, by omega, rfl, by go_num, hB'⟩
    · obtain rfl : i = G := by omega
      go_wp2_with fail
      go_ret
      exact ⟨rfl, sz, hB⟩

/-! ### lackOwn -/
def lowV (v late folded : Int) : Int := if (if wrap64 (late - 1) < folded then folded else wrap64 (late - 1)) < v then (if wrap64 (late - 1) < folded then folded else wrap64 (late - 1)) else v

theorem lowV_wf {v late folded : Int} (hv : (Lit.int .i64 v).wf = true) (hf : (Lit.int .i64 folded).wf = true) : (Lit.int .i64 (lowV v late folded)).wf = true := by
  have h1 : (Lit.int .i64 (if wrap64 (late - 1) < folded then folded else wrap64 (late - 1))).wf = true := by
    by_cases h : wrap64 (late - 1) < folded
    · rw [if_pos h]; exact hf
    · rw [if_neg h]; exact wrap64_wf _
  unfold lowV
  generalize (if wrap64 (late - 1) < folded then folded else wrap64 (late - 1)) = u at *
  by_cases h : u < v
  · rw [if_pos h]; exact h1
  · rw [if_neg h]; exact hv

theorem IM.wf {w : World} {b n sz : Nat} {f : ByteArray → Option Int} (h : IM w b n f sz) {s : ByteArray} (hs : s.size ≤ maxLen) : (Lit.int .i64 ((f s).getD 0)).wf = true := by
  obtain ⟨D, _, h2, _⟩ := h
  cases hf : f s with
  | none => decide
  | some y => exact ((h2 s hs).1 y hf).1

/-- One entry more where the key is new. -/
def szUp (f : ByteArray → Option Int) (id : ByteArray) (sz : Nat) : Nat := if (f id).isSome then sz else sz + 1

/-- What lackOwn leaves. -/
def lack (f : ByteArray → Option Int) (late : Int) (id : ByteArray) (folded : Int) : ByteArray → Option Int := upd f id (lowV ((f id).getD 0) late folded)

set_option maxHeartbeats 1000000 in
theorem lack_own (pb m n sz : Nat) (f : ByteArray → Option Int) (late folded : Int) (id : ByteArray) (w : World) (h4 : w.cell? ⟨pb, 5, none⟩ = some (.map (some m))) (h14 : w.cell? ⟨pb, 15, none⟩ = some (.int .i64 late)) (hm : IM w m n f sz) (hn : n ≤ 1048577) (hid : id.size ≤ maxLen) (hf : (Lit.int .i64 folded).wf = true) :
    Calls Try.prog 28 #[.pointer (some ⟨pb, 0, none⟩), .string id, .int .i64 folded] w fun e w' => e = .returned (.tuple #[]) ∧ IM w' m (n + 1) (lack f late id folded) (szUp f id sz) ∧ w.grownBy w' (some m) := by
  have hlk : (Instr.lookup 79 (.map (some m)) (.string id) false).run Try.prog w.drew = .ok (.int .i64 ((f id).getD 0)) w.drew := by
    have hmk : IM w.drew m n f sz := hm
    have := hmk.lookup good79 (x := id) hid
    cases hf : f id with
    | none => rw [hf] at this; exact this
    | some y => rw [hf] at this; exact this
  have hmk : IM w.drew m n f sz := hm
  obtain ⟨w3, hup, hM3, hg3, hs3⟩ := hmk.update good79 (by unfold maxLen; omega) (x := id) hid (y := lowV ((f id).getD 0) late folded) (lowV_wf (hm.wf hid) hf)
  simp only [intKit, lowV] at hup
  have hM : Hid (IM w3 m (n + 1) (lack f late id folded) (szUp f id sz)) := hM3
  have hg : w.grownBy w3 (some m) := ⟨hg3.os, hg3.tape, hg3.output, hg3.size, hg3.block⟩
  clear hM3 hmk hm hg3 hs3
  generalize (f id).getD 0 = v at *
  go_enter Try.func28, Try.ntmps28
  go_region
  go_end0
  exact ⟨rfl, hM.out, hg⟩

set_option maxHeartbeats 1000000 in
theorem zlack_own (m n sz : Nat) (f : ByteArray → Option Int) (late folded : Int) (id : ByteArray) (w : World) (hm : IM w m n f sz) (hn : n ≤ 1048577) (hid : id.size ≤ maxLen) (hf : (Lit.int .i64 folded).wf = true) :
    Calls Try.prog 13 #[.map (some m), .int .i64 late, .string id, .int .i64 folded] w fun e w' => e = .returned (.tuple #[]) ∧ IM w' m (n + 1) (lack f late id folded) (szUp f id sz) ∧ w.grownBy w' (some m) := by
  have hlt := hm.lt
  go_enter Try.func13, Try.ntmps13
  go_wp2_with fail
  refine (lack_own w.heap.size m n sz f late folded id _ (by simp [go_sem]) (by simp [go_sem]) (mapV_alloc hm _) hn hid hf).mono ?_
  rintro e w' ⟨rfl, hM, hg⟩
  have HM : Hid (IM w' m (n + 1) (lack f late id folded) (szUp f id sz)) := hM
  have hg' : w.grownBy w' (some m) := (World.grownBy_alloc w _ (some m)).andThen hg (fun j e => Or.inr e)
  clear hM hg
  go_wp2_with fail
  go_end0
  exact ⟨rfl, HM.out, hg'⟩

end Go.Proofs.Qxb6618655a
