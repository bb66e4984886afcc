/-
  leeway, the wire: zzWriteOK (25), zzSameWrite (26).
-/
import Derived.Test.Qxb6618655aWireEq
namespace Go.Proofs.Qxb6618655a
open Go.RowKit Go.Lib
set_option linter.unusedVariables false
attribute [local go_sem] eql59

theorem after2 {w w1 : World} {o1 o2 : Obj} (hs : ((w.alloc o1).alloc o2).Since ((w.alloc o1).alloc o2).heap.size w1) :
    w1.heap[w.heap.size]? = some o1 ∧ w1.heap[w.heap.size + 1]? = some o2 ∧ w.Since w.heap.size w1 := by
  have h6 : ((w.alloc o1).alloc o2).heap.size = w.heap.size + 2 := by simp
  have h5 : w.Since w.heap.size ((w.alloc o1).alloc o2) := alloc2 w _ _
  rw [h6] at hs
  refine ⟨(hs.block _ (by omega)).trans ?_, (hs.block _ (by omega)).trans ?_, h5.trans (since_mono hs (by omega))⟩
  · exact (alloc_lt _ _ (by simp)).trans (alloc_at _ _)
  · have := alloc_at (w.alloc o1) o2
    rwa [size_alloc] at this

theorem WD.weight_true {d : WD} (h : d.wd = true) : d.weight = d.wt := by simp [WD.weight, h]
theorem WD.weight_false {d : WD} (h : d.wd = false) : d.weight = 1 := by simp [WD.weight, h]

set_option maxRecDepth 100000 in
set_option maxHeartbeats 4000000 in
theorem write_ok (d : WD) (o v dl p : Value) (w : World) (hw : WOut w d o v dl p) (hv : d.val.size ≤ 1048576) :
    Calls Try.prog 25 #[.agg #[o, .string d.key, v, dl, p], .agg #[.int .u8 d.op, .string d.key, .string d.val, .int .i64 d.dlt, .bool d.wd, .int .i64 d.wt]] w (TrueN w) := by
  rcases hw with ⟨q, rfl, ⟨vb, vc, rfl, hb⟩, rfl, pb, rfl, hx⟩ | ⟨q, rfl, rfl, rfl, rfl⟩ | ⟨q, rfl, rfl, rfl, pb, rfl, hx⟩ | ⟨q1, q2, q4, rfl, rfl, rfl, rfl⟩
  · have e1 : (d.op == 1) = true := by simp [q]
    clear q
    cases hwd : d.wd with
    | true =>
      rw [WD.weight_true hwd] at hx
      clear hwd
      go_enter Try.func25, Try.ntmps25
      go_wp2_with fail
      refine (bytes_is vb vc d.val _ (hb.of_block ((alloc2 w _ _).block _ hb.lt)) hv).mono ?_
      rintro e w5 ⟨rfl, hs5⟩
      obtain ⟨b0, b1, hB⟩ := after2 hs5
      have k3 : w5.cell? ⟨w.heap.size, 3, none⟩ = some (.int .i64 0) := (cell_of_row _ _ 3 _ _ _ b0).trans rfl
      have k4 : w5.cell? ⟨w.heap.size, 4, none⟩ = some (.pointer (some ⟨pb, 0, none⟩)) := (cell_of_row _ _ 4 _ _ _ b0).trans rfl
      have x0 := cell_keep hB hx.cell
      clear b0 b1 hs5
      go_wp2_with fail
      go_ret
      exact ⟨rfl, hB⟩
    | false =>
      rw [WD.weight_false hwd] at hx
      clear hwd
      go_enter Try.func25, Try.ntmps25
      go_wp2_with fail
      refine (bytes_is vb vc d.val _ (hb.of_block ((alloc2 w _ _).block _ hb.lt)) hv).mono ?_
      rintro e w5 ⟨rfl, hs5⟩
      obtain ⟨b0, b1, hB⟩ := after2 hs5
      have k3 : w5.cell? ⟨w.heap.size, 3, none⟩ = some (.int .i64 0) := (cell_of_row _ _ 3 _ _ _ b0).trans rfl
      have k4 : w5.cell? ⟨w.heap.size, 4, none⟩ = some (.pointer (some ⟨pb, 0, none⟩)) := (cell_of_row _ _ 4 _ _ _ b0).trans rfl
      have x0 := cell_keep hB hx.cell
      clear b0 b1 hs5
      go_wp2_with fail
      go_ret
      exact ⟨rfl, hB⟩
  · have e1 : (d.op == 1) = false := by simp [q]
    have e2 : (d.op == 2) = true := by simp [q]
    clear q
    cases hwd : d.wd with
    | true =>
      clear hwd
      go_enter Try.func25, Try.ntmps25
      go_wp2_with fail
      go_ret
      exact ⟨rfl, alloc2 w _ _⟩
    | false =>
      clear hwd
      go_enter Try.func25, Try.ntmps25
      go_wp2_with fail
      go_ret
      exact ⟨rfl, alloc2 w _ _⟩
  · have e1 : (d.op == 1) = false := by simp [q]
    have e2 : (d.op == 2) = false := by simp [q]
    have e4 : (d.op == 4) = true := by simp [q]
    have hlt := hx.lt
    clear q
    cases hwd : d.wd with
    | true =>
      rw [WD.weight_true hwd] at hx
      clear hwd
      have x0 := hx.cell
      go_enter Try.func25, Try.ntmps25
      go_wp2_with fail
      go_ret
      exact ⟨rfl, alloc2 w _ _⟩
    | false =>
      rw [WD.weight_false hwd] at hx
      clear hwd
      have x0 := hx.cell
      go_enter Try.func25, Try.ntmps25
      go_wp2_with fail
      go_ret
      exact ⟨rfl, alloc2 w _ _⟩
  · have e1 : (d.op == 1) = false := by simp [q1]
    have e2 : (d.op == 2) = false := by simp [q2]
    have e4 : (d.op == 4) = false := by simp [q4]
    clear q1 q2 q4
    cases hwd : d.wd with
    | true =>
      clear hwd
      go_enter Try.func25, Try.ntmps25
      go_wp2_with fail
      go_ret
      exact ⟨rfl, alloc2 w _ _⟩
    | false =>
      clear hwd
      go_enter Try.func25, Try.ntmps25
      go_wp2_with fail
      go_ret
      exact ⟨rfl, alloc2 w _ _⟩

theorem WOut.at1 {w : World} {d : WD} {o v dl p : Value} (h : WOut w d o v dl p) (q : d.op = 1) : o = .string ⟨#[112, 117, 116]⟩ ∧ (∃ vb vc, v = .slice (some ⟨vb, 0, none⟩) d.val.size vc ∧ BytesAt w vb d.val) ∧ dl = .int .i64 0 ∧ ∃ pb, p = .pointer (some ⟨pb, 0, none⟩) ∧ BoxAt w pb d.weight := by
  rcases h with ⟨_, h⟩ | ⟨q', _⟩ | ⟨q', _⟩ | ⟨q', _⟩
  · exact h
  · omega
  · omega
  · exact absurd q q'
theorem WOut.at2 {w : World} {d : WD} {o v dl p : Value} (h : WOut w d o v dl p) (q : d.op = 2) : o = .string ⟨#[97, 100, 100]⟩ ∧ v = .slice none 0 0 ∧ dl = .int .i64 d.dlt ∧ p = .pointer none := by
  rcases h with ⟨q', h⟩ | ⟨_, h⟩ | ⟨q', _⟩ | ⟨_, q', _⟩
  · omega
  · exact h
  · omega
  · exact absurd q q'
theorem WOut.at4 {w : World} {d : WD} {o v dl p : Value} (h : WOut w d o v dl p) (q : d.op = 4) : o = .string ⟨#[100, 101, 108, 101, 116, 101]⟩ ∧ v = .slice none 0 0 ∧ dl = .int .i64 0 ∧ ∃ pb, p = .pointer (some ⟨pb, 0, none⟩) ∧ BoxAt w pb d.weight := by
  rcases h with ⟨q', h⟩ | ⟨q', _⟩ | ⟨_, h⟩ | ⟨_, _, q', _⟩
  · omega
  · omega
  · exact h
  · exact absurd q q'
theorem WOut.at0 {w : World} {d : WD} {o v dl p : Value} (h : WOut w d o v dl p) (q1 : d.op ≠ 1) (q2 : d.op ≠ 2) (q4 : d.op ≠ 4) : o = .string ⟨#[]⟩ ∧ v = .slice none 0 0 ∧ dl = .int .i64 0 ∧ p = .pointer none := by
  rcases h with ⟨q', h⟩ | ⟨q', _⟩ | ⟨q', _⟩ | ⟨_, _, _, h⟩
  · exact absurd q' q1
  · exact absurd q' q2
  · exact absurd q' q4
  · exact h

set_option maxRecDepth 100000 in
set_option maxHeartbeats 4000000 in
theorem same_write (d : WD) (o v dl p o' v' dl' p' : Value) (w : World) (hw : WOut w d o v dl p) (hw' : WOut w d o' v' dl' p') (hv : d.val.size ≤ 1048576) :
    Calls Try.prog 26 #[.agg #[o, .string d.key, v, dl, p], .agg #[o', .string d.key, v', dl', p']] w (TrueN w) := by
  rcases hw with ⟨q, rfl, ⟨vb, vc, rfl, hb⟩, rfl, pb, rfl, hx⟩ | ⟨q, rfl, rfl, rfl, rfl⟩ | ⟨q, rfl, rfl, rfl, pb, rfl, hx⟩ | ⟨q1, q2, q4, rfl, rfl, rfl, rfl⟩
  · obtain ⟨rfl, ⟨vb', vc', rfl, hb'⟩, rfl, pb', rfl, hx'⟩ := hw'.at1 q
    clear q hw'
    go_enter Try.func26, Try.ntmps26
    go_wp2_with fail
    refine (bytes_equal vb vc vb' vc' d.val _ (hb.of_block ((alloc2 w _ _).block _ hb.lt)) (hb'.of_block ((alloc2 w _ _).block _ hb'.lt)) hv).mono ?_
    rintro e w5 ⟨rfl, hs5⟩
    obtain ⟨b0, b1, hB⟩ := after2 hs5
    have k4 : w5.cell? ⟨w.heap.size, 4, none⟩ = some (.pointer (some ⟨pb, 0, none⟩)) := (cell_of_row _ _ 4 _ _ _ b0).trans rfl
    have r4 : w5.cell? ⟨w.heap.size + 1, 4, none⟩ = some (.pointer (some ⟨pb', 0, none⟩)) := (cell_of_row _ _ 4 _ _ _ b1).trans rfl
    have x0 := cell_keep hB hx.cell
    have x1 := cell_keep hB hx'.cell
    clear b0 b1 hs5
    go_wp2_with fail
    go_quiet (fail)
    go_wp2_with fail
    go_ret
    exact ⟨rfl, since_drewN hB _⟩
  · obtain ⟨rfl, rfl, rfl, rfl⟩ := hw'.at2 q
    clear q hw'
    go_enter Try.func26, Try.ntmps26
    go_wp2_with fail
    refine (bytes_nil _).mono ?_
    rintro e w5 ⟨rfl, hs5⟩
    obtain ⟨b0, b1, hB⟩ := after2 hs5
    have k4 : w5.cell? ⟨w.heap.size, 4, none⟩ = some (.pointer none) := (cell_of_row _ _ 4 _ _ _ b0).trans rfl
    have r4 : w5.cell? ⟨w.heap.size + 1, 4, none⟩ = some (.pointer none) := (cell_of_row _ _ 4 _ _ _ b1).trans rfl
    clear b0 b1 hs5
    go_wp2_with fail
    go_quiet (fail)
    go_wp2_with fail
    go_ret
    exact ⟨rfl, since_drewN hB _⟩
  · obtain ⟨rfl, rfl, rfl, pb', rfl, hx'⟩ := hw'.at4 q
    clear q hw'
    go_enter Try.func26, Try.ntmps26
    go_wp2_with fail
    refine (bytes_nil _).mono ?_
    rintro e w5 ⟨rfl, hs5⟩
    obtain ⟨b0, b1, hB⟩ := after2 hs5
    have k4 : w5.cell? ⟨w.heap.size, 4, none⟩ = some (.pointer (some ⟨pb, 0, none⟩)) := (cell_of_row _ _ 4 _ _ _ b0).trans rfl
    have r4 : w5.cell? ⟨w.heap.size + 1, 4, none⟩ = some (.pointer (some ⟨pb', 0, none⟩)) := (cell_of_row _ _ 4 _ _ _ b1).trans rfl
    have x0 := cell_keep hB hx.cell
    have x1 := cell_keep hB hx'.cell
    clear b0 b1 hs5
    go_wp2_with fail
    go_quiet (fail)
    go_wp2_with fail
    go_ret
    exact ⟨rfl, since_drewN hB _⟩
  · obtain ⟨rfl, rfl, rfl, rfl⟩ := hw'.at0 q1 q2 q4
    clear q1 q2 q4 hw'
    go_enter Try.func26, Try.ntmps26
    go_wp2_with fail
    refine (bytes_nil _).mono ?_
    rintro e w5 ⟨rfl, hs5⟩
    obtain ⟨b0, b1, hB⟩ := after2 hs5
    have k4 : w5.cell? ⟨w.heap.size, 4, none⟩ = some (.pointer none) := (cell_of_row _ _ 4 _ _ _ b0).trans rfl
    have r4 : w5.cell? ⟨w.heap.size + 1, 4, none⟩ = some (.pointer none) := (cell_of_row _ _ 4 _ _ _ b1).trans rfl
    clear b0 b1 hs5
    go_wp2_with fail
    go_quiet (fail)
    go_wp2_with fail
    go_ret
    exact ⟨rfl, since_drewN hB _⟩
end Go.Proofs.Qxb6618655a
