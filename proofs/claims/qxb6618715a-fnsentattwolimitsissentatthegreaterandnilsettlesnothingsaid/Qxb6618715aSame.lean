/-
  precedent: zzSameDeps (28).
-/
import Derived.Test.Qxb6618715aDeps
namespace Go.Proofs.Qxb6618715a
open Go.RowKit
set_option linter.unusedVariables false

theorem same_nil (ga : Option Addr) (Gc : Nat) (w : World) : Calls Try.prog 28 #[.map none, .map none, .slice ga 0 Gc] w fun e w' => e = .returned (.bool true) ∧ w' = w := by
  go_enter Try.func28, Try.ntmps28
  go_wp2_with fail
  go_loopg [7] 1 (fun g n wr => w = wr ∧ g = 1 ∧ n = .int .i64 0)
  case atStart => exact ⟨rfl, rfl, rfl⟩
  case round =>
    obtain ⟨rfl, rfl, rfl⟩ := hrel
    go_wp2_with fail
    go_ret
    exact ⟨rfl, rfl⟩

/-- What 'v, ok := m[x]' hands back. -/
def lookV (o : Option Int) : Value := .int .u64 (o.getD 0)

theorem OM.look {w : World} {b n sz : Nat} {f : Org → Option Int} (h : OM w b n f sz) {x : Org} (hx : OkO x) :
    (Instr.lookup 31 (.map (some b)) (.agg #[.string x.1, .int .u64 x.2]) true).run Try.prog w = .ok (.tuple #[.int .u64 ((f x).getD 0), .bool (f x).isSome]) w := by
  have := h.lookup_ok good31 (x := x) hx
  simp only [orgKit, mkO] at this
  rw [this]
  cases f x <;> rfl

set_option maxHeartbeats 1000000 in
theorem same_some (ga : Option Addr) (gb go G Gc : Nat) (N : Nat → ByteArray) (R V : Nat → Int) (bx nx by' ny sz : Nat) (fx fy : Org → Option Int) (w : World) (hG : G ≤ 1048576) (hW : WfD G N R V) (hD : DIn w ga gb go G N R V)
    (hx : OM w bx nx fx sz) (hy : OM w by' ny fy sz) (he : ∀ j, j < G → fx (N j, R j) = fy (N j, R j)) :
    Calls Try.prog 28 #[.map (some bx), .map (some by'), .slice ga G Gc] w fun e w' => e = .returned (.bool true) ∧ w.Since w.heap.size w' := by
  have lx := hx.len good31 3
  have ly := hy.len good31 3
  go_enter Try.func28, Try.ntmps28
  go_wp2_with fail
  clear lx ly
  go_loopg [7] G (fun g n wr => ∃ i : Nat, i ≤ G ∧ g = G - i ∧ n = .int .i64 i ∧ w.Since w.heap.size wr)
  case atStart => exact ⟨0, Nat.zero_le _, rfl, rfl, World.Since.refl _ _⟩
  case round =>
    obtain ⟨i, hi, rfl, rfl, hs⟩ := hrel
    by_cases hiG : i < G
    · obtain rfl := hD.ga (by omega)
      have hiz : (i : Int) < (G : Int) := by omega
      have hiz0 : (0 : Int) ≤ (i : Int) := by omega
      have hD2 := hD.since hs
      have g0 := hD2.c0 i hiG
      have g1 := hD2.c1 i hiG
      have b0 := cell_blk g0
      have hle := hs.size
      have hs2 : w.Since w.heap.size (wr.alloc (.cells #[.string (N i), .int .u64 (R i)] 30)).drew := (hs.alloc hs.size _).drew
      have kx := OM.look (hx.of_block (hs2.block bx hx.lt)) (hW.ok hiG)
      have ky := OM.look (hy.of_block (hs2.block by' hy.lt)) (hW.ok hiG)
      rw [← he i hiG] at ky
      go_wp2_with fail
      go_region_held3 (fun w' => w'.cell? ⟨gb, go + i * 3, none⟩ = some (.string (N i)) ∧ w'.cell? ⟨gb, go + i * 3 + 1, none⟩ = some (.int .u64 (R i))) (first | go_keep) (fail)
      have HS2 : Hid (w.Since w.heap.size (wr.alloc (.cells #[.string (N i), .int .u64 (R i)] 30)).drew) := hs2
      clear hs2 hs hD2
      generalize fx (N i, R i) = o at kx ky
      cases o with
      | none =>
        go_wp2_with fail
        go_roundg (G - (i + 1))
        case measure => go_light; omega
        case rel => go_light; exact ⟨i + 1, by omega, rfl, by go_num, HS2.out⟩
      | some q =>
        go_wp2_with fail
        go_roundg (G - (i + 1))
        case measure => go_light; omega
        case rel => go_light; exact ⟨i + 1, by omega, rfl, by go_num, HS2.out⟩
    · obtain rfl : i = G := by omega
      go_wp2_with fail
      go_ret
      exact ⟨rfl, hs⟩

/-! ### The callees, whether the counts came in as nil or not -/
theorem copy_any (ga : Option Addr) (gb go G Gc : Nat) (N : Nat → ByteArray) (R V : Nat → Int) (w : World) (hG : G ≤ 1048576) (hn : ga = none → G = 0) (hD : DIn w ga gb go G N R V) :
    Calls Try.prog 25 #[.slice ga G Gc] w fun e w' => ∃ sa sb sc, e = .returned (.slice sa G sc) ∧ w.Since w.heap.size w' ∧ DIn w' sa sb 0 G N R V ∧ (sa = none → G = 0) := by
  cases ga with
  | none =>
    obtain rfl := hn rfl
    refine (copy_nil Gc w).mono ?_
    rintro e w' ⟨rfl, rfl⟩
    exact ⟨none, 0, 0, rfl, World.Since.refl _ _, ⟨fun h => by omega, fun i hi => by omega, fun i hi => by omega, fun i hi => by omega⟩, fun _ => rfl⟩
  | some a =>
    refine (copy_some a gb go G Gc N R V w hG hD).mono ?_
    rintro e w' ⟨rfl, h1, _, h2⟩
    exact ⟨_, _, _, rfl, h1, h2, fun h => by cases h⟩

def MapPost (w : World) (sa : Option Addr) (G : Nat) (N : Nat → ByteArray) (R V : Nat → Int) (e : Ending) (w' : World) : Prop :=
  ∃ m, e = .returned (.map m) ∧ w.Since w.heap.size w' ∧ Src w' m G (built N R V G) ∧ m.isNone = sa.isNone

theorem map_any (sa : Option Addr) (sb so G sc : Nat) (N : Nat → ByteArray) (R V : Nat → Int) (w : World) (hG : G ≤ 1048576) (hn : sa = none → G = 0) (hW : WfD G N R V) (hD : DIn w sa sb so G N R V) :
    Calls Try.prog 26 #[.slice sa G sc] w (MapPost w sa G N R V) := by
  cases sa with
  | none =>
    obtain rfl := hn rfl
    refine (map_nil sc w).mono ?_
    rintro e w' ⟨rfl, rfl⟩
    exact ⟨none, rfl, World.Since.refl _ _, Or.inl ⟨rfl, rfl⟩, rfl⟩
  | some a =>
    refine (map_some a sb so G sc N R V w hG hW hD).mono ?_
    rintro e w' ⟨rfl, sz, hB⟩
    exact ⟨_, rfl, hB.since, Or.inr ⟨_, sz, rfl, hB.map⟩, rfl⟩

theorem om_size {w w' : World} {b n sz b' n' sz' : Nat} {f f' : Org → Option Int} (h : OM w b n f sz) (h' : OM w' b' n' f' sz') (e : ∀ x, OkO x → f x = f' x) : sz = sz' := by
  have h1 : sz ≤ sz' := h.size_le good31 h' good31 (fun _ => rfl) (fun _ h => h) (fun x hx hs => by rw [← e x hx]; exact hs)
  have h2 : sz' ≤ sz := h'.size_le good31 h good31 (fun _ => rfl) (fun _ h => h) (fun x hx hs => by rw [e x hx]; exact hs)
  omega

theorem om_empty {w : World} {b n sz : Nat} {f : Org → Option Int} (h : OM w b n f sz) (e : ∀ x, OkO x → f x = none) : sz = 0 :=
  om_size h (mapV_made orgKit Try.prog 30 w) e

/-- Two maps with the same counts, or none and none. -/
theorem same_any (sa : Option Addr) (sb so G sc : Nat) (N : Nat → ByteArray) (R V : Nat → Int) (m1 m2 : Option Nat) (n1 n2 : Nat) (f1 f2 : Org → Option Int) (w : World) (hG : G ≤ 1048576) (hW : WfD G N R V) (hD : DIn w sa sb so G N R V)
    (h1 : Src w m1 n1 f1) (h2 : Src w m2 n2 f2) (hm : m1.isNone = m2.isNone) (h0 : m1 = none → G = 0) (he : ∀ x, OkO x → f1 x = f2 x) :
    Calls Try.prog 28 #[.map m1, .map m2, .slice sa G sc] w fun e w' => e = .returned (.bool true) ∧ w.Since w.heap.size w' := by
  rcases h1 with ⟨rfl, rfl⟩ | ⟨b1, s1, rfl, h1⟩
  · rcases h2 with ⟨rfl, rfl⟩ | ⟨b2, s2, rfl, h2⟩
    · obtain rfl := h0 rfl
      refine (same_nil sa sc w).mono ?_
      rintro e w' ⟨rfl, rfl⟩
      exact ⟨rfl, World.Since.refl _ _⟩
    · cases hm
  · rcases h2 with ⟨rfl, rfl⟩ | ⟨b2, s2, rfl, h2⟩
    · cases hm
    · obtain rfl := om_size h1 h2 he
      exact same_some sa sb so G sc N R V b1 n1 b2 n2 s1 f1 f2 w hG hW hD h1 h2 (fun j hj => he _ (hW.ok hj))

/-! ### The plain law -/
def greater (a b : Int) : Int := if a < b then b else a

theorem keep_keep (a b : Int) (o : Option Int) : keep b (keep a o) = keep (greater a b) o := by
  cases o with
  | none => rfl
  | some v =>
    unfold keep greater
    by_cases h1 : v ≤ a
    · simp only [if_pos h1]
      by_cases h2 : a < b
      · simp only [if_pos h2]
        rw [if_pos (by omega)]
      · simp only [if_neg h2]
        rw [if_pos h1]
    · simp only [if_neg h1]
      by_cases h2 : a < b
      · simp only [if_pos h2]
      · simp only [if_neg h2]
        rw [if_neg (by omega), if_neg h1]

def Drops (f : Org → Option Int) (lim : Int) : Prop := ∃ x v, OkO x ∧ f x = some v ∧ v ≤ lim

theorem pruned_twice {f f1 : Org → Option Int} {a b : Int} {p p1 p2 po : Bool} (h1 : ∀ x, OkO x → f1 x = keep a (f x)) (e1 : p1 = true ↔ p = true ∨ ∃ x v, OkO x ∧ f x = some v ∧ v ≤ a) (e2 : p2 = true ↔ p1 = true ∨ ∃ x v, OkO x ∧ f1 x = some v ∧ v ≤ b)
    (eo : po = true ↔ p = true ∨ ∃ x v, OkO x ∧ f x = some v ∧ v ≤ greater a b) : p2 = po := by
  have hab : a ≤ greater a b ∧ b ≤ greater a b ∧ (greater a b = a ∨ greater a b = b) := by
    unfold greater
    by_cases h : a < b
    · rw [if_pos h]; omega
    · rw [if_neg h]; omega
  have key : p2 = true ↔ po = true := by
    rw [e2, e1, eo]
    constructor
    · rintro ((h | ⟨x, v, hx, hf, hv⟩) | ⟨x, v, hx, hf, hv⟩)
      · exact Or.inl h
      · exact Or.inr ⟨x, v, hx, hf, by omega⟩
      · rw [h1 x hx] at hf
        cases ho : f x with
        | none => rw [ho] at hf; cases hf
        | some u =>
          rw [ho] at hf
          unfold keep at hf
          simp only at hf
          split at hf
          · cases hf
          · cases hf
            exact Or.inr ⟨x, v, hx, ho, by omega⟩
    · rintro (h | ⟨x, v, hx, hf, hv⟩)
      · exact Or.inl (Or.inl h)
      · by_cases hva : v ≤ a
        · exact Or.inl (Or.inr ⟨x, v, hx, hf, hva⟩)
        · refine Or.inr ⟨x, v, hx, ?_, by omega⟩
          rw [h1 x hx, hf]
          simp [keep, hva]
  exact Bool.eq_iff_iff.2 key

theorem built_wf {G : Nat} {N : Nat → ByteArray} {R V : Nat → Int} (hW : WfD G N R V) {x : Org} {v : Int} (h : built N R V G x = some v) : v ≤ 18446744073709551615 := by
  obtain ⟨j, hj, _, rfl⟩ := built_some h
  have := hW.v j hj
  simp [Lit.wf] at this
  have e : IntKind.u64.max = 18446744073709551615 := by decide
  omega

theorem all_gone {G : Nat} {N : Nat → ByteArray} {R V : Nat → Int} (hW : WfD G N R V) (x : Org) : keep 18446744073709551615 (built N R V G x) = none := by
  cases h : built N R V G x with
  | none => rfl
  | some v => simp [keep, built_wf hW h]

theorem all_pruned {G : Nat} {N : Nat → ByteArray} {R V : Nat → Int} (hW : WfD G N R V) {p pa : Bool} (e : pa = true ↔ p = true ∨ ∃ x v, OkO x ∧ built N R V G x = some v ∧ v ≤ 18446744073709551615) : pa = (p || decide ((0 : Int) < (G : Int))) := by
  have key : pa = true ↔ (p || decide ((0 : Int) < (G : Int))) = true := by
    rw [e]
    simp only [Bool.or_eq_true, decide_eq_true_eq]
    constructor
    · rintro (h | ⟨x, v, hx, hf, hv⟩)
      · exact Or.inl h
      · obtain ⟨j, hj, _⟩ := built_some hf
        exact Or.inr (by omega)
    · rintro (h | h)
      · exact Or.inl h
      · obtain ⟨v, hv⟩ := built_has (N := N) (R := R) (V := V) (i := G) (j := 0) (by omega)
        exact Or.inr ⟨_, v, hW.ok (by omega), hv, built_wf hW hv⟩
  exact Bool.eq_iff_iff.2 key
end Go.Proofs.Qxb6618715a
