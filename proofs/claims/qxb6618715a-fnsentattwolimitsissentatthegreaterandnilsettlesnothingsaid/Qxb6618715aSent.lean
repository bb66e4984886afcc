/-
  precedent: sent (34) with the limit; ZZsentBelow (27).
-/
import Derived.Test.Qxb6618715aNilSent
namespace Go.Proofs.Qxb6618715a
open Go.RowKit
set_option linter.unusedVariables false

/-- What the limit leaves. -/
def keep (lim : Int) : Option Int → Option Int
  | some n => if n ≤ lim then none else some n
  | none => none

def DropsAt (f : Org → Option Int) (lim : Int) (left : Lit → Bool) : Prop := ∃ x v, OkO x ∧ f x = some v ∧ v ≤ lim ∧ left (litO x) = false

structure SentAt (w wr : World) (node : ByteArray) (run seq : Int) (mb n : Nat) (f : Org → Option Int) (lim : Int) (p : Bool) (left : Lit → Bool) (cnt : Nat) (f' : Org → Option Int) (k sz' : Nat) (p' : Bool) : Prop where
  since : w.Since w.heap.size wr
  size : w.heap.size + 4 ≤ wr.heap.size
  range : RangeV orgKit Try.prog 30 wr mb (w.heap.size + 1 + 1 + 1) n f left cnt
  map : OM wr (w.heap.size + 1 + 1) k f' sz'
  room : k + cnt ≤ n
  box : wr.heap[w.heap.size]? = some (.cells (uCells node run seq (some mb) p') 33 (0, 0))
  res : wr.heap[w.heap.size + 1]? = some (.cells zeroU 33 (0, 0))
  pr : p' = true ↔ p = true ∨ DropsAt f lim left
  here : ∀ x, OkO x → f' x = if left (litO x) = true then none else keep lim (f x)

theorem setCell_row {w : World} {b j : Nat} {cs : Array Value} {t : TypeId} (h : w.heap[b]? = some (.cells cs t (0, 0))) (v : Value) : (w.setCell ⟨b, j, none⟩ v).heap[b]? = some (.cells (cs.setIfInBounds j v) t (0, 0)) := by
  simp [World.setCell, Array.getElem?_modify, h]

theorem ufrozen {w : World} {g : Nat} {cs : Array Value} {t : TypeId} (h : w.heap[g]? = some (.cells cs t (0, 0))) (j : Nat) : w.frozen? ⟨g, j, none⟩ = false := by
  simp [World.frozen?, h]

theorem setCell_blk {w : World} {b j k : Nat} (h : k ≠ b) (v : Value) : (w.setCell ⟨b, j, none⟩ v).heap[k]? = w.heap[k]? := Below.heap_setCell w ⟨b, j, none⟩ v k h

/-- A round's worlds: from wr over w1 (the range has stepped) to w3 (new blocks alone). -/
theorem SentAt.mid {w wr w1 w3 : World} {node : ByteArray} {run seq : Int} {mb n : Nat} {f : Org → Option Int} {lim : Int} {p : Bool} {left left' : Lit → Bool} {cnt cnt' : Nat} {f' : Org → Option Int} {k sz' : Nat} {p' : Bool}
    (hmb : mb < w.heap.size) (hS : SentAt w wr node run seq mb n f lim p left cnt f' k sz' p') (hRV : RangeV orgKit Try.prog 30 w1 mb (w.heap.size + 1 + 1 + 1) n f left' cnt') (hgr : wr.grownBy w1 (some (w.heap.size + 1 + 1 + 1))) (hsz : w1.heap.size = wr.heap.size) (h3 : w1.Since w1.heap.size w3) :
    w.Since w.heap.size w3 ∧ w.heap.size + 4 ≤ w3.heap.size ∧ RangeV orgKit Try.prog 30 w3 mb (w.heap.size + 1 + 1 + 1) n f left' cnt' ∧ OM w3 (w.heap.size + 1 + 1) k f' sz' ∧
      w3.heap[w.heap.size]? = some (.cells (uCells node run seq (some mb) p') 33 (0, 0)) ∧ w3.heap[w.heap.size + 1]? = some (.cells zeroU 33 (0, 0)) := by
  have hz := hS.size
  have blk : ∀ j, j < wr.heap.size → j ≠ w.heap.size + 1 + 1 + 1 → w3.heap[j]? = wr.heap[j]? := fun j hj hne => (h3.block j (by omega)).trans (hgr.block j hj (fun e => hne (by simpa using e)))
  refine ⟨?_, by have := h3.size; omega, hRV.of_blocks (h3.block _ (by omega)) (h3.block _ (by omega)), hS.map.of_block (blk _ (by omega) (by omega)), (blk _ (by omega) (by omega)).trans hS.box, (blk _ (by omega) (by omega)).trans hS.res⟩
  exact (hS.since.grown hgr (by omega) (fun j e => by cases e; omega)).trans (since_mono h3 (by omega))

/-- The round that leaves a count out. -/
theorem SentAt.drop {w wr w3 : World} {node : ByteArray} {run seq : Int} {mb n : Nat} {f : Org → Option Int} {lim : Int} {p : Bool} {left left' : Lit → Bool} {cnt cnt' : Nat} {f' : Org → Option Int} {k sz' : Nat} {p' : Bool} {x : Org} {v : Int}
    (hmb : mb < w.heap.size) (hS : SentAt w wr node run seq mb n f lim p left cnt f' k sz' p') (hx : OkO x) (hfx : f x = some v) (hlx : left (litO x) = true) (hv : v ≤ lim) (hlt : cnt' < cnt) (hl1 : left' (litO x) = false) (hl2 : ∀ z, OkO z → z ≠ x → left' (litO z) = left (litO z))
    (hm : w.Since w.heap.size w3 ∧ w.heap.size + 4 ≤ w3.heap.size ∧ RangeV orgKit Try.prog 30 w3 mb (w.heap.size + 1 + 1 + 1) n f left' cnt' ∧ OM w3 (w.heap.size + 1 + 1) k f' sz' ∧
      w3.heap[w.heap.size]? = some (.cells (uCells node run seq (some mb) p') 33 (0, 0)) ∧ w3.heap[w.heap.size + 1]? = some (.cells zeroU 33 (0, 0))) :
    SentAt w (w3.setCell ⟨w.heap.size, 6, none⟩ (.bool true)) node run seq mb n f lim p left' cnt' f' k sz' true := by
  obtain ⟨m1, m2, m3, m4, m5, m6⟩ := hm
  refine ⟨m1.setCell (Nat.le_refl _) _, by simpa [World.setCell] using m2, m3.of_blocks (setCell_blk (by omega) _) (setCell_blk (by omega) _), m4.of_block (setCell_blk (by omega) _), by have := hS.room; omega, ?_, ?_, ?_, ?_⟩
  · rw [setCell_row m5]
    rfl
  · rw [setCell_blk (by omega)]
    exact m6
  · exact ⟨fun _ => Or.inr ⟨x, v, hx, hfx, hv, hl1⟩, fun _ => rfl⟩
  · intro z hz
    by_cases e : z = x
    · subst e
      rw [hS.here z hz, if_pos hlx, hl1, hfx]
      simp [keep, hv]
    · rw [hl2 z hz e]
      exact hS.here z hz

/-- The round that keeps one. -/
theorem SentAt.put {w wr w3 w4 : World} {node : ByteArray} {run seq : Int} {mb n : Nat} {f : Org → Option Int} {lim : Int} {p : Bool} {left left' : Lit → Bool} {cnt cnt' : Nat} {f' : Org → Option Int} {k sz' sz4 : Nat} {p' : Bool} {x : Org} {v : Int}
    (hmb : mb < w.heap.size) (hS : SentAt w wr node run seq mb n f lim p left cnt f' k sz' p') (hx : OkO x) (hfx : f x = some v) (hlx : left (litO x) = true) (hv : ¬ v ≤ lim) (hlt : cnt' < cnt) (hl1 : left' (litO x) = false) (hl2 : ∀ z, OkO z → z ≠ x → left' (litO z) = left (litO z))
    (hm : w.Since w.heap.size w3 ∧ w.heap.size + 4 ≤ w3.heap.size ∧ RangeV orgKit Try.prog 30 w3 mb (w.heap.size + 1 + 1 + 1) n f left' cnt' ∧ OM w3 (w.heap.size + 1 + 1) k f' sz' ∧
      w3.heap[w.heap.size]? = some (.cells (uCells node run seq (some mb) p') 33 (0, 0)) ∧ w3.heap[w.heap.size + 1]? = some (.cells zeroU 33 (0, 0)))
    (hM4 : OM w4 (w.heap.size + 1 + 1) (k + 1) (upd f' x v) sz4) (hg4 : w3.grownBy w4 (some (w.heap.size + 1 + 1))) (hs4 : w4.heap.size = w3.heap.size) :
    SentAt w w4 node run seq mb n f lim p left' cnt' (upd f' x v) (k + 1) sz4 p' := by
  obtain ⟨m1, m2, m3, m4, m5, m6⟩ := hm
  have blk : ∀ j, j < w3.heap.size → j ≠ w.heap.size + 1 + 1 → w4.heap[j]? = w3.heap[j]? := fun j hj hne => hg4.block j hj (fun e => hne (by simpa using e))
  refine ⟨m1.grown hg4 (by omega) (fun j e => by cases e; omega), by omega, m3.of_blocks (blk _ (by omega) (by omega)) (blk _ (by omega) (by omega)), hM4, by have := hS.room; omega, (blk _ (by omega) (by omega)).trans m5, (blk _ (by omega) (by omega)).trans m6, ?_, ?_⟩
  · rw [hS.pr]
    constructor
    · rintro (h | ⟨z, u, hz, hfz, hu, hlz⟩)
      · exact Or.inl h
      · refine Or.inr ⟨z, u, hz, hfz, hu, ?_⟩
        by_cases e : z = x
        · subst e; exact hl1
        · rw [hl2 z hz e]; exact hlz
    · rintro (h | ⟨z, u, hz, hfz, hu, hlz⟩)
      · exact Or.inl h
      · by_cases e : z = x
        · subst e
          rw [hfx] at hfz
          cases hfz
          exact absurd hu hv
        · exact Or.inr ⟨z, u, hz, hfz, hu, by rw [← hl2 z hz e]; exact hlz⟩
  · intro z hz
    by_cases e : z = x
    · subst e
      rw [upd_same, hl1, hfx]
      simp [keep, hv]
    · rw [upd_other _ _ e, hl2 z hz e]
      exact hS.here z hz

/-- What sent hands back. -/
def SentPost (w : World) (node : ByteArray) (run seq : Int) (n : Nat) (f : Org → Option Int) (lim : Int) (p : Bool) (e : Ending) (w' : World) : Prop :=
  ∃ mb' f' sz' p', e = .returned (uVal node run seq (some mb') p') ∧ w.Since w.heap.size w' ∧ w.heap.size ≤ mb' ∧ OM w' mb' n f' sz' ∧ (∀ x, OkO x → f' x = keep lim (f x)) ∧ (p' = true ↔ p = true ∨ ∃ x v, OkO x ∧ f x = some v ∧ v ≤ lim)

theorem uVal_eq (node : ByteArray) (run seq : Int) (m : Option Nat) (p : Bool) : uVal node run seq m p = .agg #[.string ⟨#[]⟩, .string node, .int .u64 run, .int .u64 seq, .map m, .int .u64 0, .bool p, .int .u64 0, .string ⟨#[]⟩, .slice none 0 0, .bool false, .pointer none] := rfl

set_option maxRecDepth 100000 in
set_option maxHeartbeats 4000000 in
theorem sent_lim (sb rb lb : Nat) (node : ByteArray) (run seq : Int) (mb n : Nat) (f : Org → Option Int) (sz : Nat) (lim : Int) (p : Bool) (w : World) (hn : n ≤ 1048576)
    (h4 : w.cell? ⟨sb, 4, none⟩ = some (.map (some rb))) (hrb : w.heap[rb]? = some (.map #[] 0)) (hl : w.cell? ⟨lb, 0, none⟩ = some (.int .u64 lim)) (hM : OM w mb n f sz) :
    Calls Try.prog 34 #[.pointer (some ⟨sb, 0, none⟩), uVal node run seq (some mb) p, .func (.func 35) #[] #[.pointer (some ⟨lb, 0, none⟩)]] w (SentPost w node run seq n f lim p) := by
  have hfn := func_nil lb
  have hlen : (Builtin.len_ #[31] 3 #[.map (some mb)]).run Try.prog ((w.alloc (.cells (uCells node run seq (some mb) p) 33)).alloc (.cells zeroU 33)) = .ok (.int .i64 sz) _ := (hM.of_block ((alloc2 w _ _).block mb hM.lt)).len good31 3
  have hmm := run_makeMap31 sz
  have hN := mapV_made orgKit Try.prog 30 ((w.alloc (.cells (uCells node run seq (some mb) p) 33)).alloc (.cells zeroU 33))
  have hM2 : OM (((w.alloc (.cells (uCells node run seq (some mb) p) 33)).alloc (.cells zeroU 33)).alloc (.map #[] 0)) mb n f sz := hM.of_block (World.Since.block (((alloc2 w _ _).alloc (by simp; omega) _)) mb hM.lt)
  obtain ⟨W1, left, hrun, hRV, hg, hsz1, hleft⟩ := hM2.range good31
  have e3 : (((w.alloc (.cells (uCells node run seq (some mb) p) 33)).alloc (.cells zeroU 33)).alloc (.map #[] 0)).heap.size = w.heap.size + 1 + 1 + 1 := by simp
  have e2 : ((w.alloc (.cells (uCells node run seq (some mb) p) 33)).alloc (.cells zeroU 33)).heap.size = w.heap.size + 1 + 1 := by simp
  rw [e3] at hrun hRV hsz1
  rw [e2] at hN
  have hsi : w.Since w.heap.size W1 := ((alloc2 w _ _).alloc (by simp; omega) _).grown hg (by rw [e3]; omega) (by simp)
  obtain ⟨b0, b1, b2, b3, b4, b5⟩ := at4 w (.cells (uCells node run seq (some mb) p) 33) (.cells zeroU 33) (.map #[] 0) (.map #[] 0)
  have hS0 : SentAt w W1 node run seq mb n f lim p left sz (fun _ => none) 0 0 p := by
    refine ⟨hsi, by omega, hRV, hN.of_block (hg.block _ (by rw [e3]; omega) (by simp)), by have := hM.le; omega, ?_, ?_, ?_, ?_⟩
    · rw [hg.block _ (by rw [e3]; omega) (by simp)]
      rw [Below.heap_alloc _ _ _ (by first | (simp; done) | (simp; omega))] at b0
      exact b0
    · rw [hg.block _ (by rw [e3]; omega) (by simp)]
      rw [Below.heap_alloc _ _ _ (by first | (simp; done) | (simp; omega))] at b1
      exact b1
    · constructor
      · exact fun h => Or.inl h
      · rintro (h | ⟨x, v, hx, hf, _, hll⟩)
        · exact h
        · have := hleft x hx
          rw [hf] at this
          rw [show orgKit.lit x = litO x from rfl, hll] at this
          cases this
    · intro x hx
      have := hleft x hx
      rw [show orgKit.lit x = litO x from rfl] at this
      rw [this]
      cases f x <;> rfl
  clear hM2 hN hRV hg hsz1 hleft e2 e3 hsi b0 b1 b2 b3 b4 b5
  have hmb := hM.lt
  have HS : Hid (SentAt w W1 node run seq mb n f lim p left sz (fun _ => none) 0 0 p) := hS0
  clear hS0
  unfold uVal
  have HM : Hid (OM w mb n f sz) := hM
  clear hM
  unfold uCells zeroU at hlen hrun
  unfold uCells
  go_enter Try.func34, Try.ntmps34
  go_wp2_with fail
  clear hfn hlen hmm hrun
  go_loopg [20] sz (fun g _ wr => ∃ left cnt f' k sz' p', g = cnt ∧ SentAt w wr node run seq mb n f lim p left cnt f' k sz' p')
  case atStart => exact ⟨left, sz, _, 0, 0, p, rfl, HS.out⟩
  case round =>
    clear HS
    obtain ⟨left, cnt, f', k, sz', p', rfl, hS⟩ := hrel
    rcases hS.range.next good31 0 with ⟨rfl, hll, hrun⟩ | ⟨x, v, w1, cnt', left', hx, hfx, hlx, hrun, hRV, hlt, hgr, hsz, hen, hl1, hl2⟩
    · have g4 : wr.cell? ⟨w.heap.size, 4, none⟩ = some (.map (some mb)) := by rw [ucell hS.box]; rfl
      have z4 : wr.frozen? ⟨w.heap.size, 4, none⟩ = false := ufrozen hS.box 4
      have hbox : (wr.setCell ⟨w.heap.size, 4, none⟩ (.map (some (w.heap.size + 1 + 1)))).heap[w.heap.size]? = some (.cells (uCells node run seq (some (w.heap.size + 1 + 1)) p') 33 (0, 0)) := by
        rw [setCell_row hS.box]
        rfl
      have hres : (wr.setCell ⟨w.heap.size, 4, none⟩ (.map (some (w.heap.size + 1 + 1)))).heap[w.heap.size + 1]? = some (.cells zeroU 33 (0, 0)) := by
        rw [setCell_blk (by omega)]
        exact hS.res
      have hM3 : OM (wr.setCell ⟨w.heap.size, 4, none⟩ (.map (some (w.heap.size + 1 + 1)))) (w.heap.size + 1 + 1) k f' sz' := hS.map.of_block (setCell_blk (by omega) _)
      have hsi : w.Since w.heap.size (wr.setCell ⟨w.heap.size, 4, none⟩ (.map (some (w.heap.size + 1 + 1)))) := hS.since.setCell (Nat.le_refl _) _
      have HX : Hid (hsi = hsi ∧ hM3 = hM3) := ⟨rfl, rfl⟩
      have HB : Hid ((wr.setCell ⟨w.heap.size, 4, none⟩ (.map (some (w.heap.size + 1 + 1)))).heap[w.heap.size]? = some (.cells (uCells node run seq (some (w.heap.size + 1 + 1)) p') 33 (0, 0))) := hbox
      have HR : Hid ((wr.setCell ⟨w.heap.size, 4, none⟩ (.map (some (w.heap.size + 1 + 1)))).heap[w.heap.size + 1]? = some (.cells zeroU 33 (0, 0))) := hres
      clear hbox hres
      generalize huc : uCells node run seq (some (w.heap.size + 1 + 1)) p' = U at HB
      have HU : Hid (uCells node run seq (some (w.heap.size + 1 + 1)) p' = U) := huc
      clear huc
      go_wp2_with (first
        | (refine wpList_store_row rfl 33 _ _ rfl (w.heap.size + 1) U rfl rfl 33 zeroU HR.out (by rw [← HU.out]; exact size33 _ _ _ _ _) (by rw [← HU.out]; rfl) (by rw [← HU.out]; exact one33 _ _ _ _ _) ?_)
        | (refine wpList_load_row rfl 33 _ rfl w.heap.size rfl 33 U (0, 0) _ HB.out Try.underlying33 rfl (by rw [← HU.out]; exact size33 _ _ _ _ _) ?_))
      have hl : (loadVar 33 ⟨w.heap.size + 1, 0, none⟩).run Try.prog ((wr.setCell ⟨w.heap.size, 4, none⟩ (.map (some (w.heap.size + 1 + 1)))).setRow (w.heap.size + 1) U) = .ok (.agg U) _ :=
        run_loadVar_row _ _ 33 33 U (0, 0) _ (setRow_heap _ _ zeroU _ 33 (0, 0) HR.out) Try.underlying33 rfl (by rw [← HU.out]; exact size33 _ _ _ _ _)
      refine bodyPost_ret (v := .agg U) (results_cell Try.results34 rfl hl) rfl ⟨w.heap.size + 1 + 1, f', sz', p', by rw [← HU.out]; rfl, since_setRow hsi (by omega) _, by omega, (hM3.of_block (setRow_other _ _ _ _ (by omega))).mono (by have := hS.room; omega), ?_, ?_⟩
      · intro x hx
        rw [hS.here x hx, if_neg (by rw [hll]; simp)]
      · rw [hS.pr]
        constructor
        · rintro (h | ⟨x, v, hx, hf, hv, _⟩)
          · exact Or.inl h
          · exact Or.inr ⟨x, v, hx, hf, hv⟩
        · rintro (h | ⟨x, v, hx, hf, hv⟩)
          · exact Or.inl h
          · exact Or.inr ⟨x, v, hx, hf, hv, hll _⟩
    · simp only [orgKit, mkO] at hrun hen hlx hl1 hl2 hx
      have hzr := hS.size
      have S1 : w.Since w.heap.size w1 := hS.since.grown hgr (by omega) (fun j e => by cases e; omega)
      have S2 : w.Since w.heap.size (w1.alloc (.cells #[.string x.1, .int .u64 x.2] 30)).drew := (S1.alloc S1.size _).drew
      have k4 := cell_keep S2 h4
      have kl := cell_keep S2 hl
      have krb : (w1.alloc (.cells #[.string x.1, .int .u64 x.2] 30)).drew.heap[rb]? = some (.map #[] 0) := by rw [S2.block rb (Array.getElem?_eq_some_iff.1 hrb).1]; exact hrb
      have klk : (Instr.lookup 67 (.map (some rb)) (.agg #[.string x.1, .int .u64 x.2]) false).run Try.prog (w1.alloc (.cells #[.string x.1, .int .u64 x.2] 30)).drew = .ok (.agg #[.int .u64 0, .int .i64 0, .pointer none]) (w1.alloc (.cells #[.string x.1, .int .u64 x.2] 30)).drew := look67 krb hx
      have HZ : Hid (w1.heap.size = wr.heap.size) := hsz
      have n1 : (w1.alloc (.cells #[.string x.1, .int .u64 x.2] 30)).drew.cell? ⟨w1.heap.size, 0, none⟩ = some (.string x.1) := by simp
      have n2 : (w1.alloc (.cells #[.string x.1, .int .u64 x.2] 30)).drew.cell? ⟨w1.heap.size, 1, none⟩ = some (.int .u64 x.2) := by simp
      have S3 : w1.Since w1.heap.size (w1.alloc (.cells #[.string x.1, .int .u64 x.2] 30)).drew := (alloc1 w1 _).drew
      clear hsz
      go_wp2_with fail
      clear hrun hen
      go_region_held3 (fun w' => w'.cell? ⟨sb, 4, none⟩ = some (.map (some rb)) ∧ w'.cell? ⟨w1.heap.size, 0, none⟩ = some (.string x.1) ∧ w'.cell? ⟨w1.heap.size, 1, none⟩ = some (.int .u64 x.2) ∧ (Instr.lookup 67 (.map (some rb)) (.agg #[.string x.1, .int .u64 x.2]) false).run Try.prog w' = .ok (.agg #[.int .u64 0, .int .i64 0, .pointer none]) w')
        (first | go_keep | exact ⟨k4, n1, n2, klk⟩ | exact ⟨cell_keep hs3 k4, cell_keep hs3 n1, cell_keep hs3 n2, look67 (by rw [hs3.block rb (Array.getElem?_eq_some_iff.1 krb).1]; exact krb) hx⟩)
        (first | (go_at_call 35; refine (below1 x v lim lb _ kl).mono ?_; rintro e w3 ⟨rfl, hs3⟩))
      have S4 : w1.Since w1.heap.size w3 := S3.trans (since_mono hs3 (by simp))
      have m1 := cell_keep hs3 n1
      have m2 := cell_keep hs3 n2
      have hm := hS.mid hmb hRV hgr HZ.out S4
      have HM4 : Hid (OM w3 (w.heap.size + 1 + 1) k f' sz') := hm.2.2.2.1
      have g6 : w3.cell? ⟨w.heap.size, 6, none⟩ = some (.bool p') := by rw [ucell hm.2.2.2.2.1]; rfl
      have z6 : w3.frozen? ⟨w.heap.size, 6, none⟩ = false := ufrozen hm.2.2.2.2.1 6
      have HW : Hid (w.Since w.heap.size w3 ∧ w.heap.size + 4 ≤ w3.heap.size ∧ RangeV orgKit Try.prog 30 w3 mb (w.heap.size + 1 + 1 + 1) n f left' cnt' ∧ OM w3 (w.heap.size + 1 + 1) k f' sz' ∧
        w3.heap[w.heap.size]? = some (.cells (uCells node run seq (some mb) p') 33 (0, 0)) ∧ w3.heap[w.heap.size + 1]? = some (.cells zeroU 33 (0, 0))) := hm
      have HF : Hid (OkO x ∧ f x = some v ∧ left (litO x) = true ∧ left' (litO x) = false ∧ ∀ z, OkO z → z ≠ x → left' (litO z) = left (litO z)) := ⟨hx, hfx, hlx, hl1, hl2⟩
      have HS1 : Hid (SentAt w wr node run seq mb n f lim p left _ f' k sz' p') := hS
      have HL : Hid (cnt' < _) := hlt
      clear hm hs3 S4 S3 n1 n2 k4 kl krb klk S1 S2 hS hRV hgr hx hfx hlx hl1 hl2 hlt HZ hzr
      by_cases hv : v ≤ lim
      · have HV : Hid (v ≤ lim) := hv
        have hd : decide (v ≤ lim) = true := by simp [hv]
        rw [hd]
        clear hd hv
        go_wp2_with fail
        go_roundg cnt'
        case measure => go_light; exact HL.out
        case rel => go_light; exact ⟨left', cnt', f', k, sz', true, rfl, HS1.out.drop hmb HF.out.1 HF.out.2.1 HF.out.2.2.1 HV.out HL.out HF.out.2.2.2.1 HF.out.2.2.2.2 HW.out⟩
      · have HV : Hid (¬ v ≤ lim) := hv
        have hd : decide (v ≤ lim) = false := by simp [hv]
        have hkn : k < maxLen := by have := HS1.out.room; have := HL.out; unfold maxLen; omega
        obtain ⟨w4, hup, hM4, hg4, hs4⟩ := HM4.out.update good31 hkn (x := x) HF.out.1 (y := v) (by
          obtain ⟨D, _, hV, _⟩ := HW.out.2.2.1
          exact ((hV x HF.out.1).1 v HF.out.2.1).1)
        simp only [orgKit, mkO] at hup
        have HN : Hid (SentAt w w4 node run seq mb n f lim p left' cnt' (upd f' x v) (k + 1) (if (f' x).isSome then sz' else sz' + 1) p') :=
          HS1.out.put hmb HF.out.1 HF.out.2.1 HF.out.2.2.1 HV.out HL.out HF.out.2.2.2.1 HF.out.2.2.2.2 HW.out hM4 hg4 hs4
        rw [hd]
        clear hd hv hM4 hg4 hs4 hkn
        go_wp2_with fail
        go_roundg cnt'
        case measure => go_light; exact HL.out
        case rel => go_light; exact ⟨left', cnt', _, _, _, p', rfl, HN.out⟩
end Go.Proofs.Qxb6618715a
