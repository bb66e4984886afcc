/-
  leeway, the wire: zzTxnBytes (19), zzTxnInDomain (20).
-/
import Derived.Test.Qxb6618655aWireIn
namespace Go.Proofs.Qxb6618655a
open Go.RowKit Go.Lib
set_option linter.unusedVariables false

def IntPost (w : World) (e : Ending) (w' : World) : Prop := (∃ z, e = .returned (.int .i64 z)) ∧ w.Since w.heap.size w'

set_option maxRecDepth 100000 in
set_option maxHeartbeats 4000000 in
theorem txn_bytes (ra : Option Addr) (rb ro G Gc : Nat) (D : Nat → RD) (wa : Option Addr) (wb wo M Mc : Nat) (E : Nat → WD) (w : World) (hG : G ≤ 1048576) (hM : M ≤ 1048576) (hD : SzR G D) (hE : SzW M E)
    (hR : RdIn w ra rb ro G D) (hW : WrIn w wa wb wo M E) :
    Calls Try.prog 19 #[.slice ra G Gc, .slice wa M Mc] w (IntPost w) := by
  go_enter Try.func19, Try.ntmps19
  have e1 : decide ((1048576 : Int) < (G : Int)) = false := by simp; omega
  have e2 : decide ((1048576 : Int) < (M : Int)) = false := by simp; omega
  go_wp2_with fail
  clear e1 e2
  go_loopg [5, 6] G (fun g n i wr => w.Since w.heap.size wr ∧ ∃ (r : Nat) (z : Int), r ≤ G ∧ g = G - r ∧ i = .int .i64 r ∧ n = .int .i64 z ∧ 0 ≤ z ∧ z ≤ 268435456)
  case atStart => go_light; exact ⟨World.Since.refl _ _, 0, _, Nat.zero_le _, rfl, rfl, rfl, by omega, by omega⟩
  case round =>
    obtain ⟨hs, r, z, hr, rfl, rfl, rfl, hz0, hz1⟩ := hrel
    by_cases hgo : r < G ∧ z ≤ 1048576
    · obtain ⟨hrG, hz2⟩ := hgo
      obtain rfl := hR.ra (by omega)
      have hrz : (r : Int) < (G : Int) := by omega
      have hc := hD r hrG
      have b1 := hc.key
      have b2 := hc.idl
      have b3 := hc.tl
      have b4 := hc.dig
      have b5 := hc.ids
      clear hc
      have hR2 := hR.since hs
      have g0 := hR2.c0 r hrG
      have g1 := hR2.c1 r hrG
      have g2 := hR2.c2 r hrG
      have g3 := hR2.c3 r hrG
      have hs2 : w.Since w.heap.size (wr.alloc (.cells #[.string (D r).key, .slice (D r).ida (D r).idl (D r).idc, .slice (D r).ta (D r).tl (D r).tc, .string (D r).dig] 56)) := hs.alloc hs.size _
      have HI : Hid ((D r).In (wr.alloc (.cells #[.string (D r).key, .slice (D r).ida (D r).idl (D r).idc, .slice (D r).ta (D r).tl (D r).tc, .string (D r).dig] 56))) := (hR.inn r hrG).since hs2
      have c1 : (wr.alloc (.cells #[.string (D r).key, .slice (D r).ida (D r).idl (D r).idc, .slice (D r).ta (D r).tl (D r).tc, .string (D r).dig] 56)).cell? ⟨wr.heap.size, 1, none⟩ = some (.slice (D r).ida (D r).idl (D r).idc) := by simp
      have C1 : Hid ((wr.alloc (.cells #[.string (D r).key, .slice (D r).ida (D r).idl (D r).idc, .slice (D r).ta (D r).tl (D r).tc, .string (D r).dig] 56)).cell? ⟨wr.heap.size, 1, none⟩ = some (.slice (D r).ida (D r).idl (D r).idc)) := c1
      have HS2 : Hid (w.Since w.heap.size (wr.alloc (.cells #[.string (D r).key, .slice (D r).ida (D r).idl (D r).idc, .slice (D r).ta (D r).tl (D r).tc, .string (D r).dig] 56))) := hs2
      have q1 : ¬ (1048576 : Int) < ((D r).key.size : Int) := by omega
      have q2 : ¬ (1048576 : Int) < ((D r).dig.size : Int) := by omega
      have q3 : ¬ (1048576 : Int) < ((D r).idl : Int) := by omega
      have q4 : ¬ (1048576 : Int) < ((D r).tl : Int) := by omega
      clear c1 hs2 hR2 hs
      go_wp2_with fail
      generalize (wr.alloc (.cells #[.string (D r).key, .slice (D r).ida (D r).idl (D r).idc, .slice (D r).ta (D r).tl (D r).tc, .string (D r).dig] 56)) = W at HI C1 HS2 ⊢
      go_loopg [5, 8] (D r).idl (fun g n i wr2 => W = wr2 ∧ ∃ (j : Nat) (y : Int), j ≤ (D r).idl ∧ g = (D r).idl - j ∧ i = .int .i64 j ∧ n = .int .i64 y ∧ 0 ≤ y ∧ y ≤ 268435456)
      case atStart => go_light; exact ⟨rfl, 0, _, Nat.zero_le _, rfl, rfl, rfl, by omega, by omega⟩
      case round =>
        obtain ⟨rfl, j, y, hj, rfl, rfl, rfl, hy0, hy1⟩ := hrel
        have c1 := C1.out
        by_cases hjI : j < (D r).idl
        · have hjz : (j : Int) < ((D r).idl : Int) := by omega
          by_cases hy2 : y ≤ 1048576
          · have hja := HI.out.ids.ga (by omega)
            rw [hja] at c1
            clear hja
            have k0 := HI.out.ids.cell j hjI
            have b6 := b5 j hjI
            go_wp2_with fail
            go_roundg ((D r).idl - (j + 1))
            case measure => go_light; omega
            case rel => go_light; exact ⟨rfl, j + 1, _, by omega, rfl, by go_num, rfl, by omega, by omega⟩
          · have d5 : decide (y ≤ 1048576) = false := by simp; omega
            go_wp2_with fail
            go_roundg (G - (r + 1))
            case measure => go_light; omega
            case rel => go_light; exact ⟨HS2.out, r + 1, _, by omega, rfl, by go_num, rfl, by omega, by omega⟩
        · have d4 : decide ((j : Int) < ((D r).idl : Int)) = false := by simp; omega
          go_wp2_with fail
          go_roundg (G - (r + 1))
          case measure => go_light; omega
          case rel => go_light; exact ⟨HS2.out, r + 1, _, by omega, rfl, by go_num, rfl, by omega, by omega⟩
    · have hstop : (decide ((r : Int) < (G : Int)) = false) ∨ (decide ((r : Int) < (G : Int)) = true ∧ decide (z ≤ 1048576) = false) := by
        by_cases h1 : r < G
        · right
          refine ⟨by simp; omega, ?_⟩
          simp only [decide_eq_false_iff_not]
          exact fun h2 => hgo ⟨h1, h2⟩
        · left
          simp
          omega
      clear hgo
      rcases hstop with d3 | ⟨d3, d5⟩
      · have hnG : ¬ r < G := by simp at d3; omega
        clear d3
        go_wp2_with fail
        go_loopg [5, 9] M (fun g n i wr2 => w.Since w.heap.size wr2 ∧ ∃ (j : Nat) (y : Int), j ≤ M ∧ g = M - j ∧ i = .int .i64 j ∧ n = .int .i64 y ∧ 0 ≤ y ∧ y ≤ 268435456)
        case atStart => go_light; exact ⟨hs, 0, _, Nat.zero_le _, rfl, rfl, rfl, by omega, by omega⟩
        case round =>
          clear hs
          obtain ⟨hs, j, y, hj, rfl, rfl, rfl, hy0, hy1⟩ := hrel
          by_cases hjM : j < M
          · have hjz : (j : Int) < (M : Int) := by omega
            by_cases hy2 : y ≤ 1048576
            · obtain rfl := hW.wa (by omega)
              obtain ⟨b1, b2⟩ := hE j hjM
              have hW2 := hW.since hs
              have k0 := hW2.c0 j hjM
              have k1 := hW2.c1 j hjM
              have k2 := hW2.c2 j hjM
              have k3 := hW2.c3 j hjM
              have k4 := hW2.c4 j hjM
              have k5 := hW2.c5 j hjM
              have HS2 : Hid (w.Since w.heap.size (wr.alloc (.cells #[.int .u8 (E j).op, .string (E j).key, .string (E j).val, .int .i64 (E j).dlt, .bool (E j).wd, .int .i64 (E j).wt] 64))) := hs.alloc hs.size _
              have q1 : ¬ (1048576 : Int) < ((E j).key.size : Int) := by omega
              have q2 : ¬ (1048576 : Int) < ((E j).val.size : Int) := by omega
              clear hW2 hs
              go_wp2_with fail
              go_roundg (M - (j + 1))
              case measure => go_light; omega
              case rel => go_light; exact ⟨HS2.out, j + 1, _, by omega, rfl, by go_num, rfl, by omega, by omega⟩
            · have d5 : decide (y ≤ 1048576) = false := by simp; omega
              go_wp2_with fail
              go_ret
              exact ⟨⟨_, rfl⟩, hs⟩
          · have d4 : decide ((j : Int) < (M : Int)) = false := by simp; omega
            go_wp2_with fail
            go_ret
            exact ⟨⟨_, rfl⟩, hs⟩
      · have hrz : (r : Int) < (G : Int) := by simpa using d3
        go_wp2_with fail
        go_loopg [5, 9] M (fun g n i wr2 => w.Since w.heap.size wr2 ∧ ∃ (j : Nat) (y : Int), j ≤ M ∧ g = M - j ∧ i = .int .i64 j ∧ n = .int .i64 y ∧ 0 ≤ y ∧ y ≤ 268435456)
        case atStart => go_light; exact ⟨hs, 0, _, Nat.zero_le _, rfl, rfl, rfl, by omega, by omega⟩
        case round =>
          clear hs
          obtain ⟨hs, j, y, hj, rfl, rfl, rfl, hy0, hy1⟩ := hrel
          by_cases hjM : j < M
          · have hjz : (j : Int) < (M : Int) := by omega
            by_cases hy2 : y ≤ 1048576
            · obtain rfl := hW.wa (by omega)
              obtain ⟨b1, b2⟩ := hE j hjM
              have hW2 := hW.since hs
              have k0 := hW2.c0 j hjM
              have k1 := hW2.c1 j hjM
              have k2 := hW2.c2 j hjM
              have k3 := hW2.c3 j hjM
              have k4 := hW2.c4 j hjM
              have k5 := hW2.c5 j hjM
              have HS2 : Hid (w.Since w.heap.size (wr.alloc (.cells #[.int .u8 (E j).op, .string (E j).key, .string (E j).val, .int .i64 (E j).dlt, .bool (E j).wd, .int .i64 (E j).wt] 64))) := hs.alloc hs.size _
              have q1 : ¬ (1048576 : Int) < ((E j).key.size : Int) := by omega
              have q2 : ¬ (1048576 : Int) < ((E j).val.size : Int) := by omega
              clear hW2 hs
              go_wp2_with fail
              go_roundg (M - (j + 1))
              case measure => go_light; omega
              case rel => go_light; exact ⟨HS2.out, j + 1, _, by omega, rfl, by go_num, rfl, by omega, by omega⟩
            · have d5 : decide (y ≤ 1048576) = false := by simp; omega
              go_wp2_with fail
              go_ret
              exact ⟨⟨_, rfl⟩, hs⟩
          · have d4 : decide ((j : Int) < (M : Int)) = false := by simp; omega
            go_wp2_with fail
            go_ret
            exact ⟨⟨_, rfl⟩, hs⟩

def TlR (k : Nat) (D : Nat → RD) : Prop := ∀ r, r < k → (D r).tl = (D r).idl
def OpW (k : Nat) (E : Nat → WD) : Prop := ∀ r, r < k → (E r).op ≠ 3
theorem tlR_snoc {k : Nat} {D : Nat → RD} (h : TlR k D) (h1 : (D k).tl = (D k).idl) : TlR (k + 1) D := by
  intro r hr
  by_cases e : r = k
  · subst e; exact h1
  · exact h r (by omega)
theorem opW_snoc {k : Nat} {E : Nat → WD} (h : OpW k E) (h1 : (E k).op ≠ 3) : OpW (k + 1) E := by
  intro r hr
  by_cases e : r = k
  · subst e; exact h1
  · exact h r (by omega)
def Dom20 (G M : Nat) (D : Nat → RD) (E : Nat → WD) (w : World) (e : Ending) (w' : World) : Prop := (∃ b, e = .returned (.bool b) ∧ (b = true → TlR G D ∧ OpW M E)) ∧ w.Since w.heap.size w'

set_option maxRecDepth 100000 in
set_option maxHeartbeats 4000000 in
theorem in_domain (ra : Option Addr) (rb ro G Gc : Nat) (D : Nat → RD) (wa : Option Addr) (wb wo M Mc : Nat) (E : Nat → WD) (w : World) (hG : G ≤ 1048576) (hM : M ≤ 1048576) (hD : SzR G D)
    (hR : RdIn w ra rb ro G D) (hW : WrIn w wa wb wo M E) :
    Calls Try.prog 20 #[.slice ra G Gc, .slice wa M Mc] w (Dom20 G M D E w) := by
  go_enter Try.func20, Try.ntmps20
  go_wp2_with fail
  go_loopg [5] G (fun g i wr => w.Since w.heap.size wr ∧ ∃ (r : Nat), r ≤ G ∧ g = G - r ∧ i = .int .i64 r ∧ TlR r D)
  case atStart => go_light; exact ⟨World.Since.refl _ _, 0, Nat.zero_le _, rfl, rfl, fun r hr => by omega⟩
  case round =>
    obtain ⟨hs, r, hr, rfl, rfl, hft⟩ := hrel
    by_cases hrG : r < G
    · obtain rfl := hR.ra (by omega)
      have hrz : (r : Int) < (G : Int) := by omega
      have hrz0 : (0 : Int) ≤ (r : Int) := by omega
      have hc := hD r hrG
      have b2 := hc.idl
      have b3 := hc.tl
      clear hc
      have hR2 := hR.since hs
      have g1 := hR2.c1 r hrG
      have g2 := hR2.c2 r hrG
      clear hR2
      by_cases q1 : (D r).tl = (D r).idl
      · have HQ : Hid ((D r).tl = (D r).idl) := q1
        have hne : (((D r).tl : Int) == ((D r).idl : Int)) = true := by simp [q1]
        clear q1
        go_wp2_with fail
        go_quiet (fail)
        go_wp2_with fail
        go_roundg (G - (r + 1))
        case measure => go_light; omega
        case rel => go_light; exact ⟨since_drewN hs _, r + 1, by omega, rfl, by go_num, tlR_snoc hft HQ.out⟩
      · have HQ : Hid (¬ (D r).tl = (D r).idl) := q1
        have hne : (((D r).tl : Int) == ((D r).idl : Int)) = false := by simp; omega
        clear q1
        go_wp2_with fail
        go_quiet (fail)
        go_wp2_with fail
        go_ret
        exact ⟨⟨false, rfl, fun h => by cases h⟩, since_drewN hs _⟩
    · have d3 : decide ((r : Int) < (G : Int)) = false := by simp; omega
      obtain rfl : r = G := by omega
      go_wp2_with fail
      go_loopg [6] M (fun g i wr => w.Since w.heap.size wr ∧ ∃ (j : Nat), j ≤ M ∧ g = M - j ∧ i = .int .i64 j ∧ OpW j E)
      case atStart => go_light; exact ⟨hs, 0, Nat.zero_le _, rfl, rfl, fun r hr => by omega⟩
      case round =>
        clear hs
        obtain ⟨hs, j, hj, rfl, rfl, hfj⟩ := hrel
        by_cases hjM : j < M
        · have hjz : (j : Int) < (M : Int) := by omega
          obtain rfl := hW.wa (by omega)
          have k0 := (hW.since hs).c0 j hjM
          by_cases q1 : (E j).op = 3
          · have hq : ((E j).op == 3) = true := by simp [q1]
            clear q1
            go_wp2_with fail
            go_ret
            exact ⟨⟨false, rfl, fun h => by cases h⟩, hs⟩
          · have hq : ((E j).op == 3) = false := by simp [q1]
            have HQ : Hid ((E j).op ≠ 3) := q1
            clear q1
            go_wp2_with fail
            go_roundg (M - (j + 1))
            case measure => go_light; omega
            case rel => go_light; exact ⟨hs, j + 1, by omega, rfl, by go_num, opW_snoc hfj HQ.out⟩
        · have d4 : decide ((j : Int) < (M : Int)) = false := by simp; omega
          obtain rfl : j = M := by omega
          go_wp2_with fail
          go_ret
          exact ⟨⟨true, rfl, fun _ => ⟨hft, hfj⟩⟩, hs⟩
end Go.Proofs.Qxb6618655a
