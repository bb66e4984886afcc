/-
  PLAIN LEMMAS AND THE STATE OF FnCopyObjectOfNumbersIsEqualAndApart's WALK.
-/
import Derived.Test.Qxb6618627aObj
namespace Go.Proofs.Qxb6618627a
open Go.RowKit
set_option linter.unusedVariables false

/-! ### How many places are the last of their key: as many as there are keys -/
def cntTo (p : Nat → Bool) : Nat → Nat
  | 0 => 0
  | n + 1 => cntTo p n + if p n then 1 else 0

theorem cntTo_congr {p q : Nat → Bool} : ∀ {n : Nat}, (∀ i, i < n → p i = q i) → cntTo p n = cntTo q n
  | 0, _ => rfl
  | n + 1, h => by simp only [cntTo]; rw [cntTo_congr (fun i hi => h i (by omega)), h n (by omega)]

theorem cntTo_one {p q : Nat → Bool} {j : Nat} : ∀ {n : Nat}, j < n → p j = true → q j = false → (∀ i, i < n → i ≠ j → p i = q i) → cntTo p n = cntTo q n + 1
  | 0, h, _, _, _ => absurd h (Nat.not_lt_zero _)
  | n + 1, h, hp, hq, he => by
    simp only [cntTo]
    by_cases e : j = n
    · subst e
      rw [hp, hq, cntTo_congr (p := p) (q := q) (fun i hi => he i (by omega) (by omega))]
      simp
    · rw [cntTo_one (by omega) hp hq (fun i hi hne => he i (by omega) hne), he n (by omega) (fun e' => e e'.symm)]
      omega

theorem cntTo_le (p : Nat → Bool) : ∀ n, cntTo p n ≤ n
  | 0 => Nat.le_refl _
  | n + 1 => by have := cntTo_le p n; simp only [cntTo]; split <;> omega

theorem isLast_succ (K : Nat → ByteArray) (G i : Nat) (hi : i < G) : isLast K (G + 1) i = (isLast K G i && !decide (K G = K i)) := by
  unfold isLast
  simp only [lastIdx]
  by_cases e : K G = K i
  · rw [if_pos e]
    have : G ≠ i := by omega
    simp [e, this]
  · rw [if_neg e]; simp [e]

theorem cntLast (K : Nat → ByteArray) : ∀ G, cntTo (isLast K G) G = dist K G
  | 0 => rfl
  | G + 1 => by
    have ih := cntLast K G
    simp only [cntTo, dist]
    have hG : isLast K (G + 1) G = true := by simp [isLast, lastIdx]
    rw [hG]
    simp only [if_true]
    cases hj : lastIdx K G (K G) with
    | none =>
      rw [← ih]
      simp only [Option.isSome_none, Bool.false_eq_true, if_false]
      rw [cntTo_congr (p := isLast K (G + 1)) (q := isLast K G)]
      intro i hi
      rw [isLast_succ K G i hi]
      have hne : K G ≠ K i := fun e => by
        unfold isLast at *
        have : ∀ n, i < n → lastIdx K n (K i) ≠ none := by
          intro n
          induction n with
          | zero => intro h; omega
          | succ n ihn =>
            intro h
            simp only [lastIdx]
            by_cases e' : K n = K i
            · rw [if_pos e']; simp
            · rw [if_neg e']
              have : i ≠ n := fun h' => e' (by rw [h'])
              exact ihn (by omega)
        exact this G hi (by rw [← e]; exact hj)
      simp [hne]
    | some j =>
      obtain ⟨hjG, hKj⟩ := lastIdx_some hj
      rw [← ih]
      simp only [Option.isSome_some, if_true]
      have h1 : isLast K G j = true := by unfold isLast; rw [hKj, hj]; simp
      have h2 : isLast K (G + 1) j = false := by rw [isLast_succ K G j hjG]; simp [hKj]
      rw [cntTo_one (p := isLast K G) (q := isLast K (G + 1)) hjG h1 h2]
      intro i hi hne
      rw [isLast_succ K G i hi]
      by_cases e : K G = K i
      · have : isLast K G i = false := by
          unfold isLast
          rw [← e, hj]
          have : j ≠ i := fun h' => hne h'.symm
          simp [this]
        simp [this]
      · simp [e]

/-! ### The two objects and the variables that hold them -/
structure Two (w wr : World) (B mo no bo : Nat) (fo : ByteArray → Option (Nat × Nat)) (D : Nat) (Yo : ByteArray → Nat → Nat) (mc nc bc : Nat) (fc : ByteArray → Option (Nat × Nat)) (szc : Nat) (Yc : ByteArray → Nat → Nat) : Prop where
  since : w.Since w.heap.size wr
  orig : Obj1 wr mo no fo D Yo
  cp : Obj1 wr mc nc fc szc Yc
  vo : wr.rowIs bo 30 1 (fun _ => .iface 49 (.map (some mo)))
  vc : wr.rowIs bc 30 1 (fun _ => .iface 49 (.map (some mc)))
  hB : w.heap.size ≤ B
  hmo : mo < B
  hfo : ∀ s, s.size ≤ maxLen → ∀ p, fo s = some p → p.1 < B
  hbo : bo < B
  hmc : B ≤ mc
  hfc : ∀ s, s.size ≤ maxLen → ∀ p, fc s = some p → B ≤ p.1
  hbc : B ≤ bc

section
variable {w wr w' : World} {B mo no bo : Nat} {fo : ByteArray → Option (Nat × Nat)} {D : Nat} {Yo : ByteArray → Nat → Nat} {mc nc bc : Nat} {fc : ByteArray → Option (Nat × Nat)} {szc : Nat} {Yc : ByteArray → Nat → Nat}

theorem Two.step (h : Two w wr B mo no bo fo D Yo mc nc bc fc szc Yc) (hs : wr.Since wr.heap.size w') : Two w w' B mo no bo fo D Yo mc nc bc fc szc Yc :=
  ⟨h.since.trans (since_mono hs h.since.size), h.orig.of_since hs, h.cp.of_since hs, h.vo.of_block (hs.block _ h.vo.lt), h.vc.of_block (hs.block _ h.vc.lt), h.hB, h.hmo, h.hfo, h.hbo, h.hmc, h.hfc, h.hbc⟩

theorem Two.drewN (h : Two w wr B mo no bo fo D Yo mc nc bc fc szc Yc) (n : Nat) : Two w (wr.drewN n) B mo no bo fo D Yo mc nc bc fc szc Yc :=
  h.step (since_drewN' (World.Since.refl _ _) n)

/-- What the first object needs stays while nothing below B turns. -/
theorem Obj1.below (h : Obj1 wr mo no fo D Yo) (hmo : mo < B) (hfo : ∀ s, s.size ≤ maxLen → ∀ p, fo s = some p → p.1 < B) (hb : ∀ i, i < B → w'.heap[i]? = wr.heap[i]?) : Obj1 w' mo no fo D Yo :=
  ⟨h.map.of_block (hb _ hmo), fun s hs p hp => ⟨(h.row s hs p hp).1.of_block (hb _ (hfo s hs p hp)), (h.row s hs p hp).2⟩⟩

theorem row_ne_row {b b' n n' : Nat} {t t' : TypeId} {f f' : Nat → Value} (h : wr.rowIs b t n f) (h' : wr.rowIs b' t' n' f') (ht : t ≠ t') : b ≠ b' := fun e => by
  subst e
  obtain ⟨c, hc, _⟩ := h
  obtain ⟨c', hc', _⟩ := h'
  rw [hc] at hc'
  cases hc'
  exact ht rfl
theorem row_ne_map {b m n n' sz : Nat} {t : TypeId} {f : Nat → Value} {g : ByteArray → Option (Nat × Nat)} (h : wr.rowIs b t n f) (h' : MapV anyKit Try.prog 9 wr m n' g sz) : b ≠ m := fun e => by
  subst e
  obtain ⟨c, hc, _⟩ := h
  obtain ⟨_, ⟨es, clock, hb, _⟩, _⟩ := h'
  rw [hc] at hb
  cases hb

/-- An empty array laid at a new key of the copy. -/
theorem Two.put (h : Two w wr B mo no bo fo D Yo mc nc bc fc szc Yc) {nc' szc' b0 : Nat} {s0 : ByteArray} (hO : Obj1 w' mc nc' (upd fc s0 (b0, 0)) szc' Yc) (hg : wr.grownBy w' (some mc)) (hb0 : B ≤ b0) :
    Two w w' B mo no bo fo D Yo mc nc' bc (upd fc s0 (b0, 0)) szc' Yc := by
  have hb : ∀ i, i ≠ mc → i < wr.heap.size → w'.heap[i]? = wr.heap[i]? := fun i h1 h2 => hg.block i h2 (fun e => h1 (by cases e; rfl))
  have hle : B ≤ wr.heap.size := by have := h.hmc; have := h.cp.map.lt; omega
  have hmc := h.hmc
  refine ⟨h.since.grown hg h.since.size (fun k e => by cases e; have := h.hB; omega), h.orig.below h.hmo h.hfo (fun i hi => hb i (by omega) (by omega)), hO, h.vo.of_block (hb _ (by have := h.hbo; omega) h.vo.lt),
    h.vc.of_block (hb _ (row_ne_map h.vc h.cp.map) h.vc.lt), h.hB, h.hmo, h.hfo, h.hbo, h.hmc, fun s hs p hp => ?_, h.hbc⟩
  by_cases e : s = s0
  · subst e; rw [upd_same] at hp; cases hp; exact hb0
  · rw [upd_other _ _ e] at hp; exact h.hfc s hs p hp

/-- A number written at place 0 of an array of the copy. -/
theorem Two.setNum (h : Two w wr B mo no bo fo D Yo mc nc bc fc szc Yc) {s0 : ByteArray} {b l x : Nat} (hs0 : s0.size ≤ maxLen) (hf : fc s0 = some (b, l)) (o : Obj) :
    ∃ Yc', Two w ((wr.setCell ⟨b, 0, none⟩ (fval x)).alloc o).drew B mo no bo fo D Yo mc nc bc fc szc Yc' ∧ Yc' s0 0 = x := by
  have hr0 := (h.cp.row s0 hs0 (b, l) hf).1
  have hbB : B ≤ b := h.hfc s0 hs0 (b, l) hf
  have hb : ∀ i, i ≠ b → i < wr.heap.size → ((wr.setCell ⟨b, 0, none⟩ (fval x)).alloc o).drew.heap[i]? = wr.heap[i]? := fun i h1 h2 => by
    show ((wr.setCell ⟨b, 0, none⟩ (fval x)).alloc o).heap[i]? = _
    rw [Go.RowKit.Below.heap_alloc _ _ _ (by simp; omega)]
    exact Go.RowKit.Below.heap_setCell _ _ _ _ h1
  have hle : b < wr.heap.size := hr0.lt
  refine ⟨fun s c => if (fc s).map (·.1) = some b ∧ c = 0 then x else Yc s c, ⟨((h.since.setCell (a := ⟨b, 0, none⟩) (by show _ ≤ b; have := h.hB; omega) _).alloc (by simp; exact h.since.size) o).drew, h.orig.below h.hmo h.hfo (fun i hi => hb i (by omega) (by omega)), ⟨h.cp.map.of_block (hb _ (row_ne_map hr0 h.cp.map).symm h.cp.map.lt), fun s hs p hp => ⟨?_, (h.cp.row s hs p hp).2⟩⟩,
    h.vo.of_block (hb _ (by have := h.hbo; omega) h.vo.lt), h.vc.of_block (hb _ (row_ne_row h.vc hr0 (by decide)) h.vc.lt), h.hB, h.hmo, h.hfo, h.hbo, h.hmc, h.hfc, h.hbc⟩, by simp [hf]⟩
  have hr := (h.cp.row s hs p hp).1
  by_cases e : p.1 = b
  · have hh := hr
    rw [e] at hh
    have h2 := (((hh.set 0 (fval x)).alloc o).drew).congr (g := fun c => fval (if (fc s).map (·.1) = some b ∧ c = 0 then x else Yc s c)) (fun c _ => by
      by_cases ec : c = 0
      · subst ec; simp [hp, e]
      · simp [ec])
    rw [e]; exact h2
  · refine (hr.of_block (hb _ e hr.lt)).congr (fun c _ => ?_)
    have : ¬ ((fc s).map (·.1) = some b ∧ c = 0) := fun hc => e (by rw [hp] at hc; exact Option.some.inj hc.1)
    show fval (Yc s c) = fval _
    rw [if_neg this]
end
end Go.Proofs.Qxb6618627a
