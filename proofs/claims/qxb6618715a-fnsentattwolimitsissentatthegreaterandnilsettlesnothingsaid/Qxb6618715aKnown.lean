/-
  precedent: THE MAPS keyed by Origin{Node, Run} with uint64 elements; the empty map of times.
-/
import Derived.Test.Qxb6618715aProg
import Derived.Test.Qxb6618715aMapV
import Derived.WalkKit
import Derived.WalkLawsBesides
import Derived.WalkSpells
import Derived.Deep.LoopGhost
import Derived.Deep.OwnRows
import Derived.Deep.Light
import Derived.Deep.QuietTactic
import Derived.BigQuiet
import Derived.Deep.RegionHeld3
import Derived.DeepKeys4
import Derived.Laws.IdiomRangeMap
namespace Go.Proofs.Qxb6618715a
open Go.RowKit
set_option linter.unusedVariables false

theorem laidOut : laidOutB Try.prog = true := by kernel_rfl

def u64R : Value → Option (DataW Unit × List MemPlace)
  | .int k x => if k = .u64 ∧ (Lit.int .u64 x).wf = true then some (.lit (.int .u64 x), []) else none
  | _ => none

theorem u64R_mk {x : Int} (h : (Lit.int .u64 x).wf = true) : u64R (.int .u64 x) = some (.lit (.int .u64 x), []) := by simp [u64R, h]
theorem u64R_inv {v : Value} {d : DataW Unit} {ps : List MemPlace} (h : u64R v = some (d, ps)) : ∃ x, v = .int .u64 x ∧ d = .lit (.int .u64 x) := by
  unfold u64R at h
  split at h
  · split at h
    · rename_i k x hc
      obtain ⟨rfl, _⟩ := hc
      cases h
      exact ⟨x, rfl, rfl⟩
    · cases h
  · cases h

/-- An Origin: node and run. -/
abbrev Org := ByteArray × Int
def mkO (x : Org) : Value := .agg #[.string x.1, .int .u64 x.2]
def litO (x : Org) : Lit := .string (keyBytes [.string x.1.data.toList, .int .u64 x.2])
def OkO (x : Org) : Prop := x.1.size ≤ maxLen ∧ (Lit.int .u64 x.2).wf = true

def orgKit : MapKit Org Int where
  mkK := mkO
  lit := litO
  Ok := OkO
  mkV := fun x => .int .u64 x
  dat := fun x => .lit (.int .u64 x)
  OkV := fun x => (Lit.int .u64 x).wf = true
  R := u64R
  zero := .int .u64 0
  zd := .lit (.int .u64 0)

section
variable {P : Program} {k t9 t23 : TypeId} {f0 f1 : Field}

structure OrgIn (P : Program) (k t9 t23 : TypeId) (f0 f1 : Field) : Prop where
  hu : P.underlying k = some (.struct #[f0, f1])
  ty0 : f0.type = t9
  ty1 : f1.type = t23
  of0 : f0.offset = 0
  of1 : f1.offset = 1
  n0 : (f0.name != "_") = true
  n1 : (f1.name != "_") = true
  u9 : P.underlying t9 = some .string
  u23 : P.underlying t23 = some (.int .u64)
  ck : P.cellsOf k = 2
  c9 : P.cellsOf t9 = 1
  c23 : P.cellsOf t23 = 1
  kt : P.keyType k = true
  ne : (P.types.size == 0) = false

theorem size_pos {n : Nat} (h : (n == 0) = false) : ∃ d, n = d + 1 := by
  cases n with
  | zero => simp at h
  | succ d => exact ⟨d, rfl⟩

theorem keyLits_one {d : Nat} {t : TypeId} {v : Value} (hu : P.underlying t = some .string) : P.keyLits (d + 1) t [v] = (match v with | .string s => if s.size ≤ maxLen then some [.string s.data.toList] else none | _ => none) := by
  cases v <;> simp [Program.keyLits, hu]
theorem keyLits_u64 {d : Nat} {t : TypeId} {v : Value} (hu : P.underlying t = some (.int .u64)) : P.keyLits (d + 1) t [v] = (match v with | .int q' n => if q' = .u64 ∧ (Lit.int .u64 n).wf = true then some [.int .u64 n] else none | _ => none) := by
  cases v <;> simp [Program.keyLits, hu]

theorem keyLits_two (G : OrgIn P k t9 t23 f0 f1) {d : Nat} {c0 c1 : Value} : P.keyLits (d + 2) k [c0, c1] = ((P.keyLits (d + 1) t9 [c0]).bind fun a => (P.keyLits (d + 1) t23 [c1]).map fun b => a ++ b) := by
  obtain ⟨hu, rfl, rfl, o0, o1, n0, n1, u9, u23, ck, c9, c23, kt, ne⟩ := G
  rw [Program.keyLits.eq_def]
  have hall : (#[f0, f1].all (·.name != "_")) = true := by
    have : (#[f0, f1].all (·.name != "_")) = ((f0.name != "_") && (f1.name != "_")) := by simp
    rw [this, n0, n1]
    rfl
  simp only [hu]
  rw [if_pos ⟨by rw [ck]; rfl, hall⟩]
  simp only [List.mapM_cons, List.mapM_nil, o0, o1, c9, c23, List.drop_zero, List.take_succ_cons, List.take_zero, List.drop_succ_cons]
  cases P.keyLits (d + 1) f0.type [c0] with
  | none => rfl
  | some a =>
    cases P.keyLits (d + 1) f1.type [c1] with
    | none => rfl
    | some b => simp

theorem keyOrg_in (G : OrgIn P k t9 t23 f0 f1) {x : Org} (h : OkO x) : keyOf P k (mkO x) = some (litO x) := by
  obtain ⟨d, hd⟩ := size_pos G.ne
  obtain ⟨s, n⟩ := x
  obtain ⟨h1, h2⟩ := h
  simp only at h1 h2
  unfold keyOf
  rw [G.hu]
  simp only [mkO, G.kt, Value.formed, G.hu, G.ck, hd]
  have e : (Value.agg #[.string s, .int .u64 n]).cells.toList = [.string s, .int .u64 n] := rfl
  rw [e, keyLits_two G, keyLits_one G.u9, keyLits_u64 G.u23]
  simp [h1, h2, litO]

theorem keyOrg_inv (G : OrgIn P k t9 t23 f0 f1) {v : Value} {l : Lit} (h : keyOf P k v = some l) : ∃ x, OkO x ∧ v = mkO x ∧ l = litO x := by
  obtain ⟨d, hd⟩ := size_pos G.ne
  unfold keyOf at h
  rw [G.hu] at h
  simp only [G.kt, Bool.true_and] at h
  split at h
  · rename_i hf
    obtain ⟨ls, h1, rfl⟩ := Option.map_eq_some_iff.1 h
    cases v <;> simp only [Value.formed, G.hu, G.ck] at hf <;> try (cases hf)
    rename_i cs
    obtain ⟨cl⟩ := cs
    have hl : cl.length = 2 := by simpa using hf
    match cl, hl, h1 with
    | [c0, c1], _, h1 =>
      have e : (Value.agg ⟨[c0, c1]⟩).cells.toList = [c0, c1] := rfl
      rw [e, hd, keyLits_two G, keyLits_one G.u9, keyLits_u64 G.u23] at h1
      cases c0 with
      | string s => ?_
      | _ => simp only [Option.bind_none] at h1; cases h1
      by_cases hs : s.size ≤ maxLen
      · simp only [if_pos hs, Option.bind_some] at h1
        cases c1 with
        | int q n => ?_
        | _ => simp only [Option.map_none] at h1; cases h1
        by_cases hn : q = .u64 ∧ (Lit.int .u64 n).wf = true
        · simp only [if_pos hn, Option.map_some, Option.some.injEq] at h1
          obtain ⟨rfl, hn⟩ := hn
          subst h1
          exact ⟨(s, n), ⟨hs, hn⟩, rfl, rfl⟩
        · simp [if_neg hn] at h1
      · simp [if_neg hs] at h1
  · cases h
end

theorem orgIn : OrgIn Try.prog 30 9 23 { name := "Node", type := 9, offset := 0, embedded := false, tag := "", pkgPath := "", byteOffset := 0 } { name := "Run", type := 23, offset := 1, embedded := false, tag := "", pkgPath := "", byteOffset := 16 } where
  hu := Try.underlying30
  ty0 := rfl
  ty1 := rfl
  of0 := rfl
  of1 := rfl
  n0 := by decide
  n1 := by decide
  u9 := Try.underlying9
  u23 := Try.underlying23
  ck := by kernel_rfl
  c9 := by kernel_rfl
  c23 := by kernel_rfl
  kt := by kernel_rfl
  ne := by kernel_rfl

theorem row30 : 30 < Try.prog.types.size := of_decide_eq_true (by kernel_rfl)
theorem law30 : Go.WideMaps.KeyLaw Try.prog 30 := deep_law_laid laidOut (m := 2) (by omega) row30 (by kernel_rfl) (by rw [Try.underlying30])
theorem keyed30 : Go.Maps.Keyed Try.prog 30 := Go.Maps.Keyed.of_law law30

theorem mkO_inj {x y : Org} (h : mkO x = mkO y) : x = y := by
  obtain ⟨s, n⟩ := x
  obtain ⟨s', n'⟩ := y
  simp [mkO] at h
  obtain ⟨rfl, rfl⟩ := h
  rfl

theorem good31 : orgKit.Good Try.prog 31 30 23 where
  law := keyed30
  ht := Try.underlying31
  hz := fun w => by kernel_rfl
  hzd := u64R_mk (x := 0) (by decide)
  key := fun x hx => keyOrg_in orgIn hx
  keyInv := fun v l h => keyOrg_inv orgIn h
  litInj := fun x y hx hy h => mkO_inj (keyed30.inj (keyOrg_in orgIn hx) (by rw [show litO x = litO y from h]; exact keyOrg_in orgIn hy))
  elem := fun y hy => u64R_mk hy
  rinj := fun v v' d ps ps' h h' => by
    obtain ⟨a, rfl, rfl⟩ := u64R_inv h
    obtain ⟨a', rfl, ha'⟩ := u64R_inv h'
    simp only [DataW.lit.injEq, Lit.int.injEq, true_and] at ha'
    rw [ha']

/-- Nothing has risen: the map of times is empty. -/
theorem look67 {w : World} {b : Nat} (h : w.heap[b]? = some (.map #[] 0)) {x : Org} (hx : OkO x) : (Instr.lookup 67 (.map (some b)) (mkO x) false).run Try.prog w = .ok (.agg #[.int .u64 0, .int .i64 0, .pointer none]) w := by
  have F : Go.WideElems.Fit (H := Unit) Try.prog 30 (fun _ => none) #[] 0 := ⟨by simp, Go.MapKept.stamped_empty 0, by simp⟩
  rcases Go.Maps.fit_look false keyed30 Try.underlying67 (show (zeroValue 84).run Try.prog w = .ok (.agg #[.int .u64 0, .int .i64 0, .pointer none]) w by kernel_rfl) h F (keyOrg_in orgIn hx) with ⟨hrun, _⟩ | ⟨e0, y, hm, _⟩
  · exact hrun
  · simp at hm

theorem since_mono {B B' : Nat} {w w' : World} (h : w.Since B w') (hB : B' ≤ B) : w.Since B' w' := ⟨h.os, h.tape, h.output, h.size, fun k hk => h.block k (Nat.lt_of_lt_of_le hk hB)⟩
theorem since_drewN {B : Nat} {w w' : World} (h : w.Since B w') (n : Nat) : w.Since B (w'.drewN n) := ⟨h.os, h.tape, h.output, h.size, h.block⟩
theorem cell_keep {w w' : World} (hs : w.Since w.heap.size w') {b o : Nat} {v : Value} (h : w.cell? ⟨b, o, none⟩ = some v) : w'.cell? ⟨b, o, none⟩ = some v := by
  rw [hs.cell (a := ⟨b, o, none⟩) (World.block_lt_of_cell? _ _ h)]; exact h
theorem cell_blk {w : World} {b o : Nat} {v : Value} (h : w.cell? ⟨b, o, none⟩ = some v) : b < w.heap.size := World.block_lt_of_cell? _ _ h

abbrev OM (w : World) (b n : Nat) (f : Org → Option Int) (sz : Nat) : Prop := MapV orgKit Try.prog 30 w b n f sz
end Go.Proofs.Qxb6618715a
