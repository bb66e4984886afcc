/-
  A MAP OF THE CALL's OWN, TOLD AS A PARTIAL FUNCTION: over 'World.ownsMap', 'World.ranges' (Derived/Maps/).
  'MapV M w b n f sz': block b of w is a map of at most n entries; at the key x it holds 'f x'; it has sz entries.
-/
import Derived.Maps.RangeWalk
import Derived.Maps.Ext
import Derived.Deep.OwnRows
namespace Go.Proofs.Qxb6618655a
open Go.Maps (Keyed)
open Go.WideElems (Fit rd rg rd_key rg_of)
set_option linter.unusedVariables false

/-- How a map's keys and elements are written and read. -/
structure MapKit (κ β : Type) where
  mkK : κ → Value
  lit : κ → Lit
  Ok : κ → Prop
  mkV : β → Value
  dat : β → DataW Unit
  OkV : β → Prop
  R : Value → Option (DataW Unit × List MemPlace)
  zero : Value
  zd : DataW Unit

structure MapKit.Good {κ β : Type} (M : MapKit κ β) (P : Program) (t k e : TypeId) : Prop where
  law : Keyed P k
  ht : P.underlying t = some (.map k e)
  hz : ∀ w : World, (zeroValue e).run P w = .ok M.zero w
  hzd : M.R M.zero = some (M.zd, [])
  key : ∀ x, M.Ok x → keyOf P k (M.mkK x) = some (M.lit x)
  keyInv : ∀ v l, keyOf P k v = some l → ∃ x, M.Ok x ∧ v = M.mkK x ∧ l = M.lit x
  litInj : ∀ x y, M.Ok x → M.Ok y → M.lit x = M.lit y → x = y
  elem : ∀ y, M.OkV y → M.R (M.mkV y) = some (M.dat y, [])
  rinj : ∀ v v' d ps ps', M.R v = some (d, ps) → M.R v' = some (d, ps') → v = v'

section
variable {κ β : Type} {M : MapKit κ β} {P : Program} {t k e : TypeId} {w : World} {b n sz : Nat} {f : κ → Option β}

/-- What D says of the keys. -/
def View (M : MapKit κ β) (D : DataW Unit) (f : κ → Option β) : Prop :=
  ∀ x, M.Ok x → (∀ y, f x = some y → M.OkV y ∧ ∀ z, D.atKey (M.lit x) z = M.dat y) ∧ (f x = none → Maps.has D (M.lit x) = false)

def MapV (M : MapKit κ β) (P : Program) (k : TypeId) (w : World) (b n : Nat) (f : κ → Option β) (sz : Nat) : Prop :=
  ∃ D : DataW Unit, w.ownsMap P k M.R b n D ∧ View M D f ∧ Maps.size D = sz

theorem owns_of_block {R : Value → Option (DataW Unit × List MemPlace)} {w' : World} {D : DataW Unit} (h : w.ownsMap P k R b n D) (e : w'.heap[b]? = w.heap[b]?) : w'.ownsMap P k R b n D := by
  obtain ⟨es, clock, hb, r⟩ := h
  exact ⟨es, clock, e.trans hb, r⟩

theorem MapV.of_block {w' : World} (h : MapV M P k w b n f sz) (e : w'.heap[b]? = w.heap[b]?) : MapV M P k w' b n f sz := by
  obtain ⟨D, h1, h2, h3⟩ := h
  exact ⟨D, owns_of_block h1 e, h2, h3⟩

theorem MapV.lt (h : MapV M P k w b n f sz) : b < w.heap.size := by obtain ⟨D, h1, _⟩ := h; exact h1.lt

theorem MapV.le (h : MapV M P k w b n f sz) : sz ≤ n := by obtain ⟨D, h1, _, h3⟩ := h; rw [← h3]; exact h1.size_le

theorem MapV.mono (h : MapV M P k w b n f sz) {n' : Nat} (hn : n ≤ n') : MapV M P k w b n' f sz := by obtain ⟨D, h1, h2, h3⟩ := h; exact ⟨D, h1.mono hn, h2, h3⟩

theorem MapV.congr {f' : κ → Option β} (h : MapV M P k w b n f sz) (e : ∀ x, M.Ok x → f x = f' x) : MapV M P k w b n f' sz := by
  obtain ⟨D, h1, h2, h3⟩ := h
  exact ⟨D, h1, fun x hx => by rw [← e x hx]; exact h2 x hx, h3⟩

theorem mapV_made (M : MapKit κ β) (P : Program) (k : TypeId) (w : World) : MapV M P k (w.alloc (.map #[] 0)) w.heap.size 0 (fun _ => none) 0 :=
  ⟨.map [], World.ownsMap_made w P k M.R, fun x _ => ⟨fun y h => (by cases h), fun _ => rfl⟩, rfl⟩

/-- 'm[x]'. -/
theorem MapV.lookup (h : MapV M P k w b n f sz) (G : M.Good P t k e) {x : κ} (hx : M.Ok x) : (Instr.lookup t (.map (some b)) (M.mkK x) false).run P w = .ok (match f x with | some y => M.mkV y | none => M.zero) w := by
  obtain ⟨D, h1, h2, h3⟩ := h
  obtain ⟨v, ps, hrun, hv⟩ := h1.lookup G.law G.ht (G.hz w) G.hzd (G.key x hx)
  rw [hrun]
  cases hf : f x with
  | none =>
    rw [Maps.atKey_of_not_has ((h2 x hx).2 hf)] at hv
    rw [G.rinj _ _ _ _ _ hv G.hzd]
  | some y =>
    obtain ⟨hy, hat⟩ := (h2 x hx).1 y hf
    rw [hat] at hv
    rw [G.rinj _ _ _ _ _ hv (G.elem y hy)]

/-- 'v, ok := m[x]'. -/
theorem MapV.lookup_ok (h : MapV M P k w b n f sz) (G : M.Good P t k e) {x : κ} (hx : M.Ok x) : (Instr.lookup t (.map (some b)) (M.mkK x) true).run P w = .ok (.tuple #[match f x with | some y => M.mkV y | none => M.zero, .bool (f x).isSome]) w := by
  obtain ⟨D, h1, h2, h3⟩ := h
  obtain ⟨v, ps, hrun, hv⟩ := h1.look_ok G.law G.ht (G.hz w) G.hzd (G.key x hx)
  rw [hrun]
  cases hf : f x with
  | none =>
    rw [Maps.atKey_of_not_has ((h2 x hx).2 hf)] at hv
    rw [G.rinj _ _ _ _ _ hv G.hzd, (h2 x hx).2 hf]
    rfl
  | some y =>
    obtain ⟨hy, hat⟩ := (h2 x hx).1 y hf
    rw [hat] at hv
    rw [Maps.has_true_of_atKey hat, G.rinj _ _ _ _ _ hv (G.elem y hy)]
    rfl

theorem MapV.len (h : MapV M P k w b n f sz) (G : M.Good P t k e) (ty : TypeId) : (Builtin.len_ #[t] ty #[.map (some b)]).run P w = .ok (.int .i64 sz) w := by
  obtain ⟨D, h1, h2, rfl⟩ := h
  exact h1.len G.ht ty

/-! ### How many entries: told by the keys alone -/
theorem owns_keys {R : Value → Option (DataW Unit × List MemPlace)} {D : DataW Unit} (h : w.ownsMap P k R b n D) {kl : Lit} (hk : Maps.has D kl = true) : ∃ v, keyOf P k v = some kl := by
  obtain ⟨es, clock, _, F, _, rfl⟩ := h
  obtain ⟨p, hp, hpk⟩ := List.any_eq_true.1 hk
  obtain ⟨x, hx, rfl⟩ := List.mem_map.1 (mem_sorted.1 hp)
  obtain ⟨y, hy⟩ := F.reads x hx
  rw [rg_of hy] at hpk
  rw [← WideAt.sameKey_eq hpk]
  exact ⟨x.key, rd_key hy⟩

theorem size_le_of_has : ∀ (N : Nat) {es : List (Lit × DataW Unit)} {D₂ : DataW Unit}, es.length = N → es.Pairwise (fun p q => p.1 ≠ q.1) → (∀ p ∈ es, WideAt.IsKeyLit p.1) → Maps.Tidy D₂ → (∀ kl, Maps.has (.map es) kl = true → Maps.has D₂ kl = true) → es.length ≤ Maps.size D₂
  | 0, es, D₂, hN, _, _, _, _ => by omega
  | N + 1, es, D₂, hN, hp, hk, t₂, hh => by
    cases es with
    | nil => simp at hN
    | cons q r =>
      have hq : Maps.has (DataW.map (q :: r)) q.1 = true := List.any_eq_true.2 ⟨q, by simp, WideAt.sameKey_self (hk q (by simp))⟩
      have s2 := Maps.size_del (k := q.1) t₂
      rw [hh _ hq] at s2
      simp only [if_true] at s2
      obtain ⟨p1, p2⟩ := List.pairwise_cons.1 hp
      have := size_le_of_has N (es := r) (D₂ := D₂.del q.1) (by simpa using hN) p2 (fun p hpr => hk p (by simp [hpr])) (t₂.del _)
        (fun kl h => by
          have hne : kl ≠ q.1 := fun e => by
            subst e
            obtain ⟨p, hpr, hs⟩ := List.any_eq_true.1 h
            exact p1 p hpr (WideAt.sameKey_eq hs).symm
          rw [Maps.has_del_other hne]
          refine hh kl ?_
          obtain ⟨p, hpr, hs⟩ := List.any_eq_true.1 h
          exact List.any_eq_true.2 ⟨p, by simp [hpr], hs⟩)
      simp only [List.length_cons]
      omega

theorem MapV.size_le {b' n' sz' : Nat} {w' : World} {β' : Type} {M' : MapKit κ β'} {f' : κ → Option β'} {t' e' : TypeId} (h : MapV M P k w b n f sz) (G : M.Good P t k e) (h' : MapV M' P k w' b' n' f' sz') (G' : M'.Good P t' k e') (el : ∀ x, M'.lit x = M.lit x) (eo : ∀ x, M.Ok x → M'.Ok x)
    (hh : ∀ x, M.Ok x → (f x).isSome = true → (f' x).isSome = true) : sz ≤ sz' := by
  obtain ⟨D, h1, h2, rfl⟩ := h
  obtain ⟨D', h1', h2', rfl⟩ := h'
  obtain ⟨es, rfl, hp, hk⟩ := h1.entries G.law
  refine size_le_of_has _ rfl hp hk (h1'.tidy G'.law) (fun kl hkl => ?_)
  obtain ⟨v, hv⟩ := owns_keys h1 hkl
  obtain ⟨x, hx, _, rfl⟩ := G.keyInv v kl hv
  have hs : (f x).isSome = true := by
    cases hf : f x with
    | none => rw [(h2 x hx).2 hf] at hkl; cases hkl
    | some y => rfl
  have hs' := hh x hx hs
  obtain ⟨y, hy⟩ := Option.isSome_iff_exists.1 hs'
  rw [← el x]
  exact Maps.has_true_of_atKey ((h2' x (eo x hx)).1 y hy).2

/-! ### 'for x, y := range m' under way -/
def RangeV (M : MapKit κ β) (P : Program) (k : TypeId) (w : World) (b r n : Nat) (f : κ → Option β) (left : Lit → Bool) (cnt : Nat) : Prop :=
  ∃ D : DataW Unit, w.ranges P k M.R b r n D left cnt ∧ View M D f ∧ (∀ kl, left kl = true → Maps.has D kl = true)

theorem RangeV.of_blocks {r cnt : Nat} {left : Lit → Bool} {w' : World} (h : RangeV M P k w b r n f left cnt) (eb : w'.heap[b]? = w.heap[b]?) (er : w'.heap[r]? = w.heap[r]?) : RangeV M P k w' b r n f left cnt := by
  obtain ⟨D, ⟨es, clock, since, seen, c0, hb, F, hs, hD, hr, rest⟩, h2, h3⟩ := h
  exact ⟨D, ⟨es, clock, since, seen, c0, eb.trans hb, F, hs, hD, er.trans hr, rest⟩, h2, h3⟩

theorem MapV.range (h : MapV M P k w b n f sz) (G : M.Good P t k e) :
    ∃ w' left, (Instr.range t (.map (some b))).run P w = .ok (.pointer (some ⟨w.heap.size, 0, none⟩)) w' ∧ RangeV M P k w' b w.heap.size n f left sz ∧ w.grownBy w' none ∧ w'.heap.size = w.heap.size + 1 ∧
      ∀ x, M.Ok x → left (M.lit x) = (f x).isSome := by
  obtain ⟨D, h1, h2, rfl⟩ := h
  obtain ⟨w', hrun, hr, hg, hs⟩ := h1.range G.law G.ht
  refine ⟨w', _, hrun, ⟨D, hr, h2, fun _ h => h⟩, hg, hs, fun x hx => ?_⟩
  cases hf : f x with
  | none => rw [(h2 x hx).2 hf]; rfl
  | some y => rw [Maps.has_true_of_atKey ((h2 x hx).1 y hf).2]; rfl

/-- The step: nothing is left, or some key that was still to come comes out with its element. -/
theorem RangeV.next {r cnt : Nat} {left : Lit → Bool} (h : RangeV M P k w b r n f left cnt) (G : M.Good P t k e) (ty : TypeId) :
    (cnt = 0 ∧ (∀ kl, left kl = false) ∧ (Instr.next (.pointer (some ⟨r, 0, none⟩)) false ty).run P w = .ok (.tuple #[.bool false]) w) ∨
    ∃ x y w' cnt' left', M.Ok x ∧ f x = some y ∧ left (M.lit x) = true ∧ (Instr.next (.pointer (some ⟨r, 0, none⟩)) false ty).run P w = .ok (.tuple #[.bool true, M.mkK x, M.mkV y]) w' ∧
      RangeV M P k w' b r n f left' cnt' ∧ cnt' < cnt ∧ w.grownBy w' (some r) ∧ w'.heap.size = w.heap.size ∧ (Instr.entry (.pointer (some ⟨r, 0, none⟩))).run P w' = .ok (.tuple #[M.mkK x, M.mkV y]) w' ∧
      left' (M.lit x) = false ∧ ∀ z, M.Ok z → z ≠ x → left' (M.lit z) = left (M.lit z) := by
  obtain ⟨D, h1, h2, h3⟩ := h
  rcases h1.next G.law ty with ⟨h0, hl, hrun⟩ | ⟨key, v, kl, y, w', cnt', hkey, hlk, hv, hat, hrun, hrg, hlt, hgr, hsz, hen⟩
  · exact Or.inl ⟨h0, hl, hrun⟩
  · obtain ⟨x, hx, rfl, rfl⟩ := G.keyInv key kl hkey
    have hf : ∃ y0, f x = some y0 := by
      cases hf : f x with
      | none =>
        have := h3 _ hlk
        rw [(h2 x hx).2 hf] at this
        cases this
      | some y0 => exact ⟨y0, rfl⟩
    obtain ⟨y0, hf⟩ := hf
    obtain ⟨hy0, hat0⟩ := (h2 x hx).1 y0 hf
    have e1 : y.1 = M.dat y0 := (hat M.zd).symm.trans (hat0 M.zd)
    have e2 : v = M.mkV y0 := G.rinj _ _ y.1 y.2 [] hv (by rw [G.elem y0 hy0, e1])
    subst e2
    refine Or.inr ⟨x, y0, w', cnt', _, hx, hf, hlk, hrun, ⟨D, hrg, h2, fun kl h => h3 kl (by simp only [Bool.and_eq_true] at h; exact h.1)⟩, hlt, hgr, hsz, hen, ?_, fun z hz hne => ?_⟩
    · show (left (M.lit x) && !(M.lit x).sameKey (M.lit x)) = false
      rw [WideAt.sameKey_self (G.law.key hkey)]
      simp
    · show (left (M.lit z) && !(M.lit z).sameKey (M.lit x)) = left (M.lit z)
      rw [Maps.sameKey_ne (fun e2 => hne (G.litInj z x hz hx e2))]
      simp

end
section
variable {κ β : Type} {M : MapKit κ β} {P : Program} {t k e : TypeId} {w : World} {b n sz : Nat} {f : κ → Option β}
variable [DecidableEq κ]

/-- f with y laid at x. -/
def upd (f : κ → Option β) (x : κ) (y : β) : κ → Option β := fun z => if z = x then some y else f z

theorem upd_same (f : κ → Option β) (x : κ) (y : β) : upd f x y x = some y := by simp [upd]
theorem upd_other (f : κ → Option β) {x z : κ} (y : β) (h : z ≠ x) : upd f x y z = f z := by simp [upd, h]

/-- 'm[x] = y'. -/
theorem MapV.update (h : MapV M P k w b n f sz) (G : M.Good P t k e) (hn : n < maxLen) {x : κ} (hx : M.Ok x) {y : β} (hy : M.OkV y) :
    ∃ w', (Instr.mapUpdate t (.map (some b)) (M.mkK x) (M.mkV y)).run P w = .ok () w' ∧ MapV M P k w' b (n + 1) (upd f x y) (if (f x).isSome then sz else sz + 1) ∧ w.grownBy w' (some b) ∧ w'.heap.size = w.heap.size := by
  obtain ⟨D, h1, h2, h3⟩ := h
  obtain ⟨w', hrun, how, hturn⟩ := h1.store G.law G.ht hn (G.key x hx) (G.elem y hy)
  refine ⟨w', hrun, ⟨_, how, fun z hz => ?_, ?_⟩, hturn.grown, ?_⟩
  · by_cases e1 : z = x
    · subst e1
      rw [upd_same]
      refine ⟨fun y' h' => ?_, fun h' => by cases h'⟩
      cases h'
      exact ⟨hy, fun d => Maps.atKey_put_same h1.isMap (G.law.key (G.key z hz)) _ _⟩
    · have hne : M.lit z ≠ M.lit x := fun e2 => e1 (G.litInj z x hz hx e2)
      rw [upd_other _ _ e1]
      refine ⟨fun y' h' => ⟨((h2 z hz).1 y' h').1, fun d => ?_⟩, fun h' => ?_⟩
      · rw [Maps.atKey_put_other hne]; exact ((h2 z hz).1 y' h').2 d
      · rw [Maps.has_put_other hne]; exact (h2 z hz).2 h'
  · rw [Maps.size_put (h1.tidy G.law), h3]
    cases hf : f x with
    | none => rw [(h2 x hx).2 hf]; rfl
    | some y' => rw [Maps.has_true_of_atKey ((h2 x hx).1 y' hf).2]; rfl
  · obtain ⟨es, clock, es', clock', hb, rfl⟩ := hturn
    simp [Go.ChangeMaps.setBlock]


end
end Go.Proofs.Qxb6618655a
