/-
  leeway, the wire: zzBytesIs (34), zzBytesEqual (35), zzReadOK (23), zzSameRead (24).
-/
import Derived.Test.Qxb6618655aWireTx
namespace Go.Proofs.Qxb6618655a
open Go.RowKit Go.Lib
set_option linter.unusedVariables false
attribute [local go_sem] eql28 eql32 eql59

def TrueN (w : World) (e : Ending) (w' : World) : Prop := e = .returned (.bool true) ∧ w.Since w.heap.size w'

theorem getD_at (s : ByteArray) (j : Nat) (h : j < s.size) : s.data.toList.getD j 0 = s[j] := by
  rw [List.getD_eq_getElem?_getD, List.getElem?_eq_getElem (by rw [Array.length_toList]; exact h)]
  rfl

set_option maxRecDepth 100000 in
set_option maxHeartbeats 1000000 in
theorem bytes_is (b c : Nat) (s : ByteArray) (w : World) (h : BytesAt w b s) (hs : s.size ≤ 1048576) :
    Calls Try.prog 34 #[.slice (some ⟨b, 0, none⟩) s.size c, .string s] w (TrueN w) := by
  go_enter Try.func34, Try.ntmps34
  go_wp2_with fail
  go_loopg [5] s.size (fun g n wr => ∃ i : Nat, i ≤ s.size ∧ g = s.size - i ∧ n = .int .i64 i ∧ w.Since w.heap.size wr)
  case atStart => go_light; exact ⟨0, Nat.zero_le _, rfl, rfl, World.Since.refl _ _⟩
  case round =>
    obtain ⟨i, hi, rfl, rfl, hsw⟩ := hrel
    by_cases hin : i < s.size
    · have hiz : (i : Int) < (s.size : Int) := by omega
      have hiz0 : (0 : Int) ≤ (i : Int) := by omega
      have k0 := cell_keep hsw (h.cell hin)
      rw [getD_at s i hin] at k0
      go_wp2_with fail
      go_quiet (fail)
      go_wp2_with fail
      go_roundg (s.size - (i + 1))
      case measure => go_light; omega
      case rel => go_light; exact ⟨i + 1, by omega, rfl, by go_num, since_drewN hsw _⟩
    · have d3 : decide ((i : Int) < (s.size : Int)) = false := by simp; omega
      go_wp2_with fail
      go_ret
      exact ⟨rfl, hsw⟩

set_option maxRecDepth 100000 in
set_option maxHeartbeats 1000000 in
theorem bytes_equal (b c b' c' : Nat) (s : ByteArray) (w : World) (h : BytesAt w b s) (h' : BytesAt w b' s) (hs : s.size ≤ 1048576) :
    Calls Try.prog 35 #[.slice (some ⟨b, 0, none⟩) s.size c, .slice (some ⟨b', 0, none⟩) s.size c'] w (TrueN w) := by
  go_enter Try.func35, Try.ntmps35
  go_wp2_with fail
  go_loopg [5] s.size (fun g n wr => ∃ i : Nat, i ≤ s.size ∧ g = s.size - i ∧ n = .int .i64 i ∧ w.Since w.heap.size wr)
  case atStart => go_light; exact ⟨0, Nat.zero_le _, rfl, rfl, World.Since.refl _ _⟩
  case round =>
    obtain ⟨i, hi, rfl, rfl, hsw⟩ := hrel
    by_cases hin : i < s.size
    · have hiz : (i : Int) < (s.size : Int) := by omega
      have hiz0 : (0 : Int) ≤ (i : Int) := by omega
      have k0 := cell_keep hsw (h.cell hin)
      have k1 := cell_keep hsw (h'.cell hin)
      go_wp2_with fail
      go_quiet (fail)
      go_wp2_with fail
      go_roundg (s.size - (i + 1))
      case measure => go_light; omega
      case rel => go_light; exact ⟨i + 1, by omega, rfl, by go_num, since_drewN hsw _⟩
    · have d3 : decide ((i : Int) < (s.size : Int)) = false := by simp; omega
      go_wp2_with fail
      go_ret
      exact ⟨rfl, hsw⟩

set_option maxRecDepth 100000 in
set_option maxHeartbeats 1000000 in
theorem bytes_nil (w : World) :
    Calls Try.prog 35 #[.slice none 0 0, .slice none 0 0] w (TrueN w) := by
  go_enter Try.func35, Try.ntmps35
  go_wp2_with fail
  go_loopg [5] 1 (fun g n wr => w = wr ∧ n = .int .i64 0)
  case atStart => go_light; exact ⟨rfl, rfl⟩
  case round =>
    obtain ⟨rfl, rfl⟩ := hrel
    go_wp2_with fail
    go_ret
    exact ⟨rfl, World.Since.refl _ _⟩
end Go.Proofs.Qxb6618655a
