/-
  THE MAPS OF plait: string keys, elements of type any that are arrays of the call's own. THE WALK OF flow.Copy AT A MAP.
-/
import Derived.Test.Qxb6618627aCopy
import Derived.Test.Qxb6618627aMapV
import Derived.Laws.Cover2
namespace Go.Proofs.Qxb6618627a
open Go.RowKit
set_option linter.unusedVariables false

def arrV (p : Nat × Nat) : Value := .iface 50 (.slice (some ⟨p.1, 0, none⟩) p.2 p.2)

def anyR : Value → Option (DataW Unit × List MemPlace)
  | .nilIface => some (.nil, [])
  | .iface t (.slice (some a) n m) => if t = 50 ∧ a.off = 0 ∧ a.spot = none ∧ m = n then some (.agg [.lit (.int .i64 a.block), .lit (.int .i64 n)], []) else none
  | _ => none

def anyKit : MapKit ByteArray (Nat × Nat) where
  mkK := fun s => .string s
  lit := fun s => .string s.data.toList
  Ok := fun s => s.size ≤ maxLen
  mkV := arrV
  dat := fun p => .agg [.lit (.int .i64 p.1), .lit (.int .i64 p.2)]
  OkV := fun _ => True
  R := anyR
  zero := .nilIface
  zd := .nil

theorem string_inv {P : Program} {k : TypeId} (hk : P.underlying k = some .string) {v : Value} {l : Lit} (h : keyOf P k v = some l) : ∃ s : ByteArray, s.size ≤ maxLen ∧ v = .string s ∧ l = .string s.data.toList := by
  cases v <;> simp [keyOf, hk, mapKey] at h
  rename_i s
  exact ⟨s, h.1, rfl, h.2.symm⟩

theorem bytes_inj {a b : ByteArray} (h : a.data.toList = b.data.toList) : a = b := by
  apply ByteArray.ext
  exact Array.toList_inj.1 h

theorem anyR_inv {v : Value} {d : DataW Unit} {ps : List MemPlace} (h : anyR v = some (d, ps)) : (v = .nilIface ∧ d = .nil) ∨ ∃ p : Nat × Nat, v = arrV p ∧ d = .agg [.lit (.int .i64 p.1), .lit (.int .i64 p.2)] := by
  unfold anyR at h
  split at h
  · cases h; exact Or.inl ⟨rfl, rfl⟩
  · split at h
    · rename_i a n m hc
      obtain ⟨rfl, h1, h2, rfl⟩ := hc
      obtain ⟨b, o, sp⟩ := a
      simp only at h1 h2
      subst h1 h2
      cases h
      exact Or.inr ⟨(b, m), rfl, rfl⟩
    · cases h
  · cases h

theorem anyGood : anyKit.Good Try.prog 49 9 20 where
  law := Go.Maps.string_keyed Try.underlying9
  ht := Try.underlying49
  hz := fun w => by kernel_rfl
  hzd := rfl
  key := fun x hx => Go.WideMaps.keyOf_string_mk Try.underlying9 hx
  keyInv := fun v l h => string_inv Try.underlying9 h
  litInj := fun x y _ _ h => bytes_inj (by simpa [anyKit] using h)
  elem := fun y _ => by simp [anyKit, anyR, arrV]
  rinj := fun v v' d ps ps' h h' => by
    rcases anyR_inv h with ⟨rfl, rfl⟩ | ⟨p, rfl, rfl⟩
    · rcases anyR_inv h' with ⟨rfl, _⟩ | ⟨p', _, e⟩
      · rfl
      · cases e
    · rcases anyR_inv h' with ⟨_, e⟩ | ⟨p', rfl, e⟩
      · cases e
      · simp only [DataW.agg.injEq, List.cons.injEq, DataW.lit.injEq, Lit.int.injEq, true_and, and_true] at e
        have e1 : p.1 = p'.1 := by omega
        have e2 : p.2 = p'.2 := by omega
        rw [show p = p' from Prod.ext e1 e2]

/-! ### What the type tests answer -/
theorem ta40_49 (x : Value) (w : World) : (Instr.typeAssert (.iface 40 x) 20 49 true).run Try.prog w = .ok (.tuple #[.map none, .bool false]) w := by kernel_rfl
theorem ta40_50 (x : Value) (w : World) : (Instr.typeAssert (.iface 40 x) 20 50 true).run Try.prog w = .ok (.tuple #[.slice none 0 0, .bool false]) w := by kernel_rfl
theorem ta40_40 (x : Value) (w : World) : (Instr.typeAssert (.iface 40 x) 20 40 true).run Try.prog w = .ok (.tuple #[x, .bool true]) w := by kernel_rfl
theorem ta49_49 (x : Value) (w : World) : (Instr.typeAssert (.iface 49 x) 20 49 true).run Try.prog w = .ok (.tuple #[x, .bool true]) w := by kernel_rfl
theorem run_makeMap_hint (n : Nat) (w : World) : (Instr.makeMap 49 (some (.int .i64 (n : Int)))).run Try.prog w = .ok (.map (some w.heap.size)) (w.alloc (.map #[] 0)) := by
  simp [Instr.makeMap, asInt, asIntOf, Result.andThen]

attribute [local go_sem] ta40_49 ta40_50 ta40_40 ta49_49 ta50_49 ta50_50

set_option maxHeartbeats 400000 in
theorem copy_float (x : Nat) (w : World) :
    Calls Try.prog 19 #[.iface 40 (.float .f64 x)] w fun e w' => e = .returned (.iface 40 (.float .f64 x)) ∧ w' = w := by
  go_enter Try.func19, Try.ntmps19
  go_wp2_with fail
  go_ret
  exact ⟨rfl, rfl⟩
theorem leaf_float (x : Nat) : Leaf (.iface 40 (.float .f64 x)) := fun w => copy_float x w


/-! ### An object of arrays of numbers in memory -/
def fval (x : Nat) : Value := .iface 40 (.float .f64 x)

structure Obj1 (w : World) (m n : Nat) (f : ByteArray → Option (Nat × Nat)) (sz : Nat) (Y : ByteArray → Nat → Nat) : Prop where
  map : MapV anyKit Try.prog 9 w m n f sz
  row : ∀ s, s.size ≤ maxLen → ∀ p, f s = some p → w.rowIs p.1 20 p.2 (fun c => fval (Y s c)) ∧ p.2 ≤ 1048576

/-- While Copy ranges over the map: the copy's own map is block w.heap.size, the iterator block w.heap.size + 1. -/
structure CopyAt (w wr : World) (m n : Nat) (f : ByteArray → Option (Nat × Nat)) (Y : ByteArray → Nat → Nat) (left : Lit → Bool) (cnt : Nat) (f' : ByteArray → Option (Nat × Nat)) (k sz' : Nat) : Prop where
  since : w.Since w.heap.size wr
  size : w.heap.size + 2 ≤ wr.heap.size
  range : RangeV anyKit Try.prog 9 wr m (w.heap.size + 1) n f left cnt
  map : MapV anyKit Try.prog 9 wr w.heap.size k f' sz'
  room : k + cnt ≤ n
  still : ∀ s, s.size ≤ maxLen → left (.string s.data.toList) = true → f' s = none
  gone : ∀ s, s.size ≤ maxLen → f s = none → f' s = none
  done : ∀ s, s.size ≤ maxLen → ∀ p, f s = some p → left (.string s.data.toList) = false → ∃ b, f' s = some (b, p.2) ∧ w.heap.size + 2 ≤ b ∧ b < wr.heap.size ∧ wr.rowIs b 20 p.2 (fun c => fval (Y s c))

theorem copyAt_step {w wr w1 w2 w3 : World} {m n : Nat} {f : ByteArray → Option (Nat × Nat)} {Y : ByteArray → Nat → Nat} {left left' : Lit → Bool} {cnt cnt' : Nat} {f' : ByteArray → Option (Nat × Nat)} {k sz' sz3 : Nat} {s : ByteArray} {b l : Nat}
    (hmw : m < w.heap.size) (hC : CopyAt w wr m n f Y left cnt f' k sz') (hs : s.size ≤ maxLen) (hfs : f s = some (b, l)) (hRV : RangeV anyKit Try.prog 9 w1 m (w.heap.size + 1) n f left' cnt') (hlt : cnt' < cnt) (hgr : wr.grownBy w1 (some (w.heap.size + 1))) (hsz : w1.heap.size = wr.heap.size)
    (hl1 : left' (.string s.data.toList) = false) (hl2 : ∀ z : ByteArray, z.size ≤ maxLen → z ≠ s → left' (.string z.data.toList) = left (.string z.data.toList))
    (hR : RowAt w1 w2 l (fun i => .iface 40 (.float .f64 (Y s i))) l) (hM3 : MapV anyKit Try.prog 9 w3 w.heap.size (k + 1) (upd f' s (w1.heap.size, l)) sz3) (hg3 : w2.grownBy w3 (some w.heap.size)) (hs3 : w3.heap.size = w2.heap.size) :
    CopyAt w w3 m n f Y left' cnt' (upd f' s (w1.heap.size, l)) (k + 1) sz3 := by
  have hz1 := hC.size
  have hz2 := hR.size
  have hblk : ∀ i, i ≠ w.heap.size → i ≠ w.heap.size + 1 → i < wr.heap.size → w3.heap[i]? = wr.heap[i]? := fun i h1 h2 h3 =>
    (hg3.block i (by omega) (fun e => h1 (by cases e; rfl))).trans ((hR.since.block i (by omega)).trans (hgr.block i h3 (fun e => h2 (by cases e; rfl))))
  have hblk1 : ∀ i, i ≠ w.heap.size → i < w1.heap.size → w3.heap[i]? = w1.heap[i]? := fun i h1 h3 => (hg3.block i (by omega) (fun e => h1 (by cases e; rfl))).trans (hR.since.block i h3)
  refine ⟨⟨?_, ?_, ?_, ?_, fun i hi => ?_⟩, by omega, ?_, hM3, by have := hC.room; omega, fun z hz hl => ?_, fun z hz hf => ?_, fun z hz p hp hl => ?_⟩
  · rw [hg3.os, hR.since.os, hgr.os, hC.since.os]
  · rw [hg3.tape, hR.since.tape, hgr.tape, hC.since.tape]
  · rw [hg3.output, hR.since.output, hgr.output, hC.since.output]
  · have := hC.since.size; omega
  · rw [hblk i (by omega) (by omega) (by omega)]; exact hC.since.block i hi
  · exact hRV.of_blocks (hblk1 m (by omega) (by omega)) (hblk1 _ (by omega) (by omega))
  · by_cases e : z = s
    · subst e; rw [hl1] at hl; cases hl
    · rw [upd_other _ _ e]; exact hC.still z hz (by rw [← hl2 z hz e]; exact hl)
  · by_cases e : z = s
    · subst e; rw [hfs] at hf; cases hf
    · rw [upd_other _ _ e]; exact hC.gone z hz hf
  · by_cases e : z = s
    · subst e
      rw [hfs] at hp
      cases hp
      refine ⟨w1.heap.size, upd_same _ _ _, by omega, by omega, ?_⟩
      exact (hR.row.congr (fun i hi => by rw [if_pos hi]; rfl)).of_block (hg3.block _ (by omega) (fun e => by simp at e; omega))
    · obtain ⟨b', h1, h2, h3, h4⟩ := hC.done z hz p hp (by rw [← hl2 z hz e]; exact hl)
      exact ⟨b', by rw [upd_other _ _ e]; exact h1, h2, by omega, h4.of_block (hblk b' (by omega) (by omega) h3)⟩

set_option maxHeartbeats 400000 in
theorem copy_obj (m n : Nat) (f : ByteArray → Option (Nat × Nat)) (sz : Nat) (Y : ByteArray → Nat → Nat) (w : World) (hn : n ≤ 1048576) (hO : Obj1 w m n f sz Y) :
    Calls Try.prog 19 #[.iface 49 (.map (some m))] w fun e w' => e = .returned (.iface 49 (.map (some w.heap.size))) ∧ ∃ f' left k sz', CopyAt w w' m n f Y left 0 f' k sz' ∧ ∀ kl, left kl = false := by
  have hlen := hO.map.len anyGood 3
  have hmm := run_makeMap_hint sz
  have hM1 : MapV anyKit Try.prog 9 (w.alloc (.map #[] 0)) m n f sz := hO.map.of_block (World.Since.block ((World.Since.refl w.heap.size w).alloc (Nat.le_refl _) _) m hO.map.lt)
  have hN1 := mapV_made anyKit Try.prog 9 w
  obtain ⟨W1, left, hrun, hRV, hg, hs, hleft⟩ := hM1.range anyGood
  have es : (w.alloc (.map #[] 0)).heap.size = w.heap.size + 1 := by simp
  rw [es] at hrun hRV hs
  have hN2 : MapV anyKit Try.prog 9 W1 w.heap.size 0 (fun _ => none) 0 := hN1.of_block (hg.block _ (by rw [es]; omega) (by simp))
  have hsi : w.Since w.heap.size W1 := ((World.Since.refl w.heap.size w).alloc (Nat.le_refl _) _).grown hg (by rw [es]; omega) (by simp)
  have hC0 : CopyAt w W1 m n f Y left sz (fun _ => none) 0 0 := ⟨hsi, by omega, hRV, hN2, by have := hO.map.le; omega, fun _ _ _ => rfl, fun _ _ _ => rfl, fun s hs p hp hl => by
    have := hleft s hs
    simp only [anyKit] at this
    rw [hl, hp] at this
    cases this⟩
  clear hM1 hN1 hRV hg hs hleft es hN2 hsi
  go_enter Try.func19, Try.ntmps19
  go_wp2_with fail
  clear hrun hmm hlen
  go_loopg [20] sz (fun g _ wr => ∃ left cnt f' k sz', g = cnt ∧ CopyAt w wr m n f Y left cnt f' k sz')
  case atStart => exact ⟨left, sz, _, 0, 0, rfl, hC0⟩
  case round =>
    clear hC0
    obtain ⟨left, cnt, f', k, sz', rfl, hC⟩ := hrel
    rcases hC.range.next anyGood 0 with ⟨rfl, hl, hrun⟩ | ⟨s, p, w1, cnt', left', hs, hfs, hls, hrun, hRV, hlt, hgr, hsz, hen, hl1, hl2⟩
    · go_wp2_with fail
      go_ret
      exact ⟨rfl, f', left, k, sz', hC, hl⟩
    · obtain ⟨b, l⟩ := p
      simp only [anyKit, arrV] at hs hls hrun hen hl1 hl2
      have hr0 := (hO.row s hs (b, l) hfs).1
      have hll := (hO.row s hs (b, l) hfs).2
      have hbw : b < w.heap.size := hr0.lt
      have S1 : w.Since w.heap.size w1 := hC.since.grown hgr (by have := hC.size; omega) (fun j e => by cases e; omega)
      have HR : Hid (w1.rowIs b 20 l (fun c => fval (Y s c))) := hr0.of_block (S1.block _ hbw)
      go_wp2_with fail
      clear hrun hen
      refine (copy_row b l (fun _ => 40) (fun c => .float .f64 (Y s c)) w1 hll HR.out (fun i _ => leaf_float _)).mono ?_
      rintro e w2 ⟨rfl, hR⟩
      have hz1 := hC.size
      have hM2 : MapV anyKit Try.prog 9 w2 w.heap.size k f' sz' := (hC.map.of_block (hgr.block _ (by omega) (fun e => by simp at e))).of_block (hR.since.block _ (by omega))
      obtain ⟨w3, hup, hM3, hg3, hs3⟩ := hM2.update anyGood (by have := hC.room; unfold maxLen; omega) (x := s) hs (y := (w1.heap.size, l)) trivial
      simp only [anyKit, arrV] at hup
      have hC' : CopyAt w w3 m n f Y left' cnt' (upd f' s (w1.heap.size, l)) (k + 1) (if (f' s).isSome then sz' else sz' + 1) :=
        copyAt_step hO.map.lt hC hs hfs hRV hlt hgr hsz hl1 hl2 hR hM3 hg3 hs3
      clear hM2 hM3 hg3 hs3 hz1 hR HR S1 hRV hgr hsz hl1 hl2
      go_wp2_with fail
      go_roundg cnt'
      case measure => go_light; exact hlt
      case rel => go_light; exact ⟨left', cnt', _, _, _, rfl, hC'⟩

/-- The copy behind the call. -/
structure Copied (w w' : World) (m' n : Nat) (f : ByteArray → Option (Nat × Nat)) (sz : Nat) (Y : ByteArray → Nat → Nat) (f' : ByteArray → Option (Nat × Nat)) : Prop where
  since : w.Since w.heap.size w'
  obj : Obj1 w' m' n f' sz Y
  m : w.heap.size ≤ m'
  gone : ∀ s, s.size ≤ maxLen → f s = none → f' s = none
  done : ∀ s, s.size ≤ maxLen → ∀ p, f s = some p → ∃ b, f' s = some (b, p.2) ∧ w.heap.size ≤ b

theorem copied_of {w w' : World} {m n : Nat} {f : ByteArray → Option (Nat × Nat)} {sz : Nat} {Y : ByteArray → Nat → Nat} {left : Lit → Bool} {f' : ByteArray → Option (Nat × Nat)} {k sz' : Nat} (hO : Obj1 w m n f sz Y) (h : CopyAt w w' m n f Y left 0 f' k sz') (hl : ∀ kl, left kl = false) :
    Copied w w' w.heap.size n f sz Y f' := by
  have e : sz' = sz := by
    have h1 : sz' ≤ sz := h.map.size_le anyGood hO.map anyGood (fun _ => rfl) (fun _ h => h) (fun s hs h' => by
      cases hf : f s with
      | none => rw [h.gone s hs hf] at h'; cases h'
      | some p => rfl)
    have h2 : sz ≤ sz' := hO.map.size_le anyGood h.map anyGood (fun _ => rfl) (fun _ h => h) (fun s hs h' => by
      obtain ⟨p, hp⟩ := Option.isSome_iff_exists.1 h'
      obtain ⟨b, hb, _⟩ := h.done s hs p hp (hl _)
      rw [hb]; rfl)
    omega
  subst e
  refine ⟨h.since, ⟨h.map.mono (by have := h.room; omega), fun s hs p hp => ?_⟩, Nat.le_refl _, h.gone, fun s hs p hp => ?_⟩
  · cases hf : f s with
    | none => rw [h.gone s hs hf] at hp; cases hp
    | some q =>
      obtain ⟨b, hb, _, _, hr⟩ := h.done s hs q hf (hl _)
      rw [hb] at hp
      cases hp
      exact ⟨hr, (hO.row s hs q hf).2⟩
  · obtain ⟨b, hb, h1, _⟩ := h.done s hs p hp (hl _)
    exact ⟨b, hb, by omega⟩

theorem Obj1.of_since {w w' : World} {m n : Nat} {f : ByteArray → Option (Nat × Nat)} {sz : Nat} {Y : ByteArray → Nat → Nat} (h : Obj1 w m n f sz Y) (hs : w.Since w.heap.size w') : Obj1 w' m n f sz Y :=
  ⟨h.map.of_block (hs.block _ h.map.lt), fun s hs' p hp => ⟨(h.row s hs' p hp).1.of_block (hs.block _ (h.row s hs' p hp).1.lt), (h.row s hs' p hp).2⟩⟩

set_option maxHeartbeats 400000 in
theorem zcopy_obj (m n : Nat) (f : ByteArray → Option (Nat × Nat)) (sz : Nat) (Y : ByteArray → Nat → Nat) (w : World) (hn : n ≤ 1048576) (hO : Obj1 w m n f sz Y) :
    Calls Try.prog 7 #[.agg #[.iface 49 (.map (some m))]] w fun e w' => e = .returned (.agg #[.iface 49 (.map (some (w.heap.size + 2)))]) ∧ ∃ f', Copied w w' (w.heap.size + 2) n f sz Y f' := by
  have hsW : w.Since w.heap.size ((w.alloc (Obj.cells #[Value.iface 49 (Value.map (some m))] 30)).alloc (Obj.cells #[Value.nilIface] 30)) := ((World.Since.refl _ _).alloc (Nat.le_refl _) _).alloc (by simp) _
  have hOW := hO.of_since hsW
  go_enter Try.func7, Try.ntmps7
  go_wp2_with fail
  refine (copy_obj m n f sz Y _ hn hOW).mono ?_
  generalize hW : (w.alloc (Obj.cells #[Value.iface 49 (Value.map (some m))] 30)).alloc (Obj.cells #[Value.nilIface] 30) = W at *
  have hsz : W.heap.size = w.heap.size + 2 := by rw [← hW]; simp
  have hc : W.cell? ⟨w.heap.size + 1, 0, none⟩ = some .nilIface := by rw [← hW]; simp [go_sem]
  have hfz : W.frozen? ⟨w.heap.size + 1, 0, none⟩ = false := by rw [← hW]; simp [go_sem]
  clear hW
  rintro e w' ⟨rfl, f', left, k, sz', hC, hl⟩
  have hD := copied_of hOW hC hl
  clear hC hl
  have g1 : w'.cell? ⟨w.heap.size + 1, 0, none⟩ = some .nilIface := by rw [hD.since.cell (a := ⟨w.heap.size + 1, 0, none⟩) (by show w.heap.size + 1 < _; omega)]; exact hc
  have g2 : w'.frozen? ⟨w.heap.size + 1, 0, none⟩ = false := by rw [hD.since.frozen (a := ⟨w.heap.size + 1, 0, none⟩) (by show w.heap.size + 1 < _; omega)]; exact hfz
  have HS : Hid (W.heap.size = w.heap.size + 2) := hsz
  clear hc hfz hsz
  go_wp2_with fail
  refine bodyPost_ret (v := .agg #[.iface 49 (.map (some W.heap.size))]) (by simp [results, Try.results7, go_sem, g1]) rfl ?_
  refine ⟨by rw [HS.out], f', ?_⟩
  have hz := HS.out
  have hst : w'.Since (w.heap.size + 1) (w'.setCell ⟨w.heap.size + 1, 0, none⟩ (.iface 49 (.map (some W.heap.size)))) := (World.Since.refl (w.heap.size + 1) w').setCell (a := ⟨w.heap.size + 1, 0, none⟩) (Nat.le_refl _) _
  have hblk : ∀ i, i ≠ w.heap.size + 1 → (w'.setCell ⟨w.heap.size + 1, 0, none⟩ (.iface 49 (.map (some W.heap.size)))).heap[i]? = w'.heap[i]? := fun i hi => Go.RowKit.Below.heap_setCell _ _ _ _ hi
  rw [← hz]
  refine ⟨(hsW.trans (since_mono hD.since (by omega))).trans (since_mono hst (by omega)), ⟨hD.obj.map.of_block (hblk _ (by omega)), fun s hs p hp => ⟨?_, (hD.obj.row s hs p hp).2⟩⟩, by omega, hD.gone, fun s hs p hp => ?_⟩
  · refine (hD.obj.row s hs p hp).1.of_block (hblk _ ?_)
    cases hf : f s with
    | none => rw [hD.gone s hs hf] at hp; cases hp
    | some q =>
      obtain ⟨b, hb, h1⟩ := hD.done s hs q hf
      rw [hb] at hp
      cases hp
      show b ≠ _
      omega
  · obtain ⟨b, hb, h1⟩ := hD.done s hs p hp
    exact ⟨b, hb, by omega⟩

end Go.Proofs.Qxb6618627a
