/-
  leeway, the wire: the reads and writes as they came in; zzBytes_.. (18).
-/
import Derived.Test.Qxb6618655aDeps
namespace Go.Proofs.Qxb6618655a
open Go.RowKit Go.Lib
set_option linter.unusedVariables false

/-- One write, as it came in. -/
structure WD where
  op : Int
  key : ByteArray
  val : ByteArray
  dlt : Int
  wd : Bool
  wt : Int

structure RdIn (w : World) (ra : Option Addr) (rb ro G : Nat) (D : Nat → RD) : Prop where
  ra : 0 < G → ra = some ⟨rb, ro, none⟩
  c0 : ∀ i, i < G → w.cell? ⟨rb, ro + i * 4, none⟩ = some (.string (D i).key)
  c1 : ∀ i, i < G → w.cell? ⟨rb, ro + i * 4 + 1, none⟩ = some (.slice (D i).ida (D i).idl (D i).idc)
  c2 : ∀ i, i < G → w.cell? ⟨rb, ro + i * 4 + 2, none⟩ = some (.slice (D i).ta (D i).tl (D i).tc)
  c3 : ∀ i, i < G → w.cell? ⟨rb, ro + i * 4 + 3, none⟩ = some (.string (D i).dig)
  inn : ∀ i, i < G → (D i).In w

structure WrIn (w : World) (wa : Option Addr) (wb wo G : Nat) (E : Nat → WD) : Prop where
  wa : 0 < G → wa = some ⟨wb, wo, none⟩
  c0 : ∀ i, i < G → w.cell? ⟨wb, wo + i * 6, none⟩ = some (.int .u8 (E i).op)
  c1 : ∀ i, i < G → w.cell? ⟨wb, wo + i * 6 + 1, none⟩ = some (.string (E i).key)
  c2 : ∀ i, i < G → w.cell? ⟨wb, wo + i * 6 + 2, none⟩ = some (.string (E i).val)
  c3 : ∀ i, i < G → w.cell? ⟨wb, wo + i * 6 + 3, none⟩ = some (.int .i64 (E i).dlt)
  c4 : ∀ i, i < G → w.cell? ⟨wb, wo + i * 6 + 4, none⟩ = some (.bool (E i).wd)
  c5 : ∀ i, i < G → w.cell? ⟨wb, wo + i * 6 + 5, none⟩ = some (.int .i64 (E i).wt)

theorem RdIn.since {w w' : World} {ra : Option Addr} {rb ro G : Nat} {D : Nat → RD} (h : RdIn w ra rb ro G D) (hs : w.Since w.heap.size w') : RdIn w' ra rb ro G D :=
  ⟨h.ra, fun i hi => cell_keep hs (h.c0 i hi), fun i hi => cell_keep hs (h.c1 i hi), fun i hi => cell_keep hs (h.c2 i hi), fun i hi => cell_keep hs (h.c3 i hi), fun i hi => (h.inn i hi).since hs⟩
theorem WrIn.since {w w' : World} {wa : Option Addr} {wb wo G : Nat} {E : Nat → WD} (h : WrIn w wa wb wo G E) (hs : w.Since w.heap.size w') : WrIn w' wa wb wo G E :=
  ⟨h.wa, fun i hi => cell_keep hs (h.c0 i hi), fun i hi => cell_keep hs (h.c1 i hi), fun i hi => cell_keep hs (h.c2 i hi), fun i hi => cell_keep hs (h.c3 i hi), fun i hi => cell_keep hs (h.c4 i hi), fun i hi => cell_keep hs (h.c5 i hi)⟩

/-- How large: as memory bounds it. -/
structure RD.Cap (d : RD) : Prop where
  key : d.key.size ≤ 9223372036854775807
  idl : d.idl ≤ 9223372036854775807
  ids : ∀ i, i < d.idl → (d.ids i).size ≤ 9223372036854775807
  tl : d.tl ≤ 9223372036854775807
  dig : d.dig.size ≤ 9223372036854775807

/-- How large: as the law's own bound leaves it. -/
structure RD.Sz (d : RD) : Prop where
  key : d.key.size ≤ 1048576
  idl : d.idl ≤ 1048576
  ids : ∀ i, i < d.idl → (d.ids i).size ≤ 1048576
  tl : d.tl ≤ 1048576
  dig : d.dig.size ≤ 1048576

def SzR (k : Nat) (D : Nat → RD) : Prop := ∀ r, r < k → (D r).Sz
def SzW (k : Nat) (E : Nat → WD) : Prop := ∀ r, r < k → (E r).key.size ≤ 1048576 ∧ (E r).val.size ≤ 1048576
def SzI (k : Nat) (ids : Nat → ByteArray) : Prop := ∀ r, r < k → (ids r).size ≤ 1048576

theorem szR_snoc {k : Nat} {D : Nat → RD} (h : SzR k D) (h1 : (D k).Sz) : SzR (k + 1) D := by
  intro r hr
  by_cases e : r = k
  · subst e; exact h1
  · exact h r (by omega)
theorem szW_snoc {k : Nat} {E : Nat → WD} (h : SzW k E) (h1 : (E k).key.size ≤ 1048576) (h2 : (E k).val.size ≤ 1048576) : SzW (k + 1) E := by
  intro r hr
  by_cases e : r = k
  · subst e; exact ⟨h1, h2⟩
  · exact h r (by omega)
theorem szI_snoc {k : Nat} {ids : Nat → ByteArray} (h : SzI k ids) (h1 : (ids k).size ≤ 1048576) : SzI (k + 1) ids := by
  intro r hr
  by_cases e : r = k
  · subst e; exact h1
  · exact h r (by omega)

def Bytes18 (G M : Nat) (D : Nat → RD) (E : Nat → WD) (w : World) (e : Ending) (w' : World) : Prop := (∃ b, e = .returned (.bool b) ∧ (b = true → G ≤ 1048576 ∧ M ≤ 1048576 ∧ SzR G D ∧ SzW M E)) ∧ w' = w

theorem no18 {G M : Nat} {D : Nat → RD} {E : Nat → WD} {w : World} : Bytes18 G M D E w (.returned (.bool false)) w := ⟨⟨false, rfl, fun h => by cases h⟩, rfl⟩

set_option maxRecDepth 100000 in
set_option maxHeartbeats 4000000 in
theorem bytes18 (ra : Option Addr) (rb ro G Gc : Nat) (D : Nat → RD) (wa : Option Addr) (wb wo M Mc : Nat) (E : Nat → WD) (cr cw : Int) (w : World) (hG : G ≤ 9223372036854775807) (hM : M ≤ 9223372036854775807) (hD : ∀ i, i < G → (D i).Cap) (hE : ∀ i, i < M → (E i).key.size ≤ 9223372036854775807 ∧ (E i).val.size ≤ 9223372036854775807)
    (hR : RdIn w ra rb ro G D) (hW : WrIn w wa wb wo M E) :
    Calls Try.prog 18 #[.slice ra G Gc, .slice wa M Mc, .int .i64 cr, .int .i64 cw] w (Bytes18 G M D E w) := by
  go_enter Try.func18, Try.ntmps18
  by_cases h1 : (1048576 : Int) < (G : Int)
  · go_wp2_with fail
    go_ret
    exact no18
  go_wp2_with fail
  go_loopg [9, 10] G (fun g n i wr => w = wr ∧ ∃ (r : Nat) (z : Int), r ≤ G ∧ g = G - r ∧ i = .int .i64 r ∧ n = .int .i64 z ∧ 0 ≤ z ∧ z ≤ 1048576 ∧ SzR r D)
  case atStart => go_light; exact ⟨rfl, 0, _, Nat.zero_le _, rfl, rfl, rfl, by omega, by omega, fun r hr => by omega⟩
  case round =>
    obtain ⟨rfl, r, z, hr, rfl, rfl, rfl, hz0, hz1, hft⟩ := hrel
    by_cases hrG : r < G
    · obtain rfl := hR.ra (by omega)
      have hrz : (r : Int) < (G : Int) := by omega
      have hc := hD r hrG
      have b1 := hc.key
      have b2 := hc.idl
      have b3 := hc.tl
      have b4 := hc.dig
      have b5 := hc.ids
      clear hc
      have g0 := hR.c0 r hrG
      have g1 := hR.c1 r hrG
      have g2 := hR.c2 r hrG
      have g3 := hR.c3 r hrG
      have hin := hR.inn r hrG
      by_cases q1 : (1048576 : Int) < ((D r).key.size : Int)
      · go_wp2_with fail
        go_ret
        exact no18
      by_cases q2 : (1048576 : Int) < z + ((D r).key.size : Int)
      · go_wp2_with fail
        go_ret
        exact no18
      by_cases q3 : (1048576 : Int) < ((D r).idl : Int)
      · go_wp2_with fail
        go_ret
        exact no18
      by_cases q4 : (1048576 : Int) < z + ((D r).key.size : Int) + ((D r).idl : Int)
      · go_wp2_with fail
        go_ret
        exact no18
      go_wp2_with fail
      go_loopg [9, 11] (D r).idl (fun g n i wr => w = wr ∧ ∃ (j : Nat) (y : Int), j ≤ (D r).idl ∧ g = (D r).idl - j ∧ i = .int .i64 j ∧ n = .int .i64 y ∧ 0 ≤ y ∧ y ≤ 1048576 ∧ SzI j (D r).ids)
      case atStart => go_light; exact ⟨rfl, 0, _, Nat.zero_le _, rfl, rfl, rfl, by omega, by omega, fun r hr => by omega⟩
      case round =>
        obtain ⟨rfl, j, y, hj, rfl, rfl, rfl, hy0, hy1, hfj⟩ := hrel
        by_cases hjI : j < (D r).idl
        · have hjz : (j : Int) < ((D r).idl : Int) := by omega
          have hja := hin.ids.ga (by omega)
          rw [hja] at g1
          clear hja
          have k0 := hin.ids.cell j hjI
          have b6 := b5 j hjI
          by_cases p1 : (1048576 : Int) < (((D r).ids j).size : Int)
          · go_wp2_with fail
            go_ret
            exact no18
          by_cases p2 : (1048576 : Int) < y + (((D r).ids j).size : Int)
          · go_wp2_with fail
            go_ret
            exact no18
          go_wp2_with fail
          go_roundg ((D r).idl - (j + 1))
          case measure => go_light; omega
          case rel => go_light; exact ⟨rfl, j + 1, _, by omega, rfl, by go_num, rfl, by omega, by omega, szI_snoc hfj (by omega)⟩
        · have d4 : decide ((j : Int) < ((D r).idl : Int)) = false := by simp; omega
          obtain rfl : j = (D r).idl := by omega
          by_cases p1 : (1048576 : Int) < ((D r).tl : Int)
          · go_wp2_with fail
            go_ret
            exact no18
          by_cases p2 : (1048576 : Int) < y + ((D r).tl : Int)
          · go_wp2_with fail
            go_ret
            exact no18
          by_cases p3 : (1048576 : Int) < ((D r).dig.size : Int)
          · go_wp2_with fail
            go_ret
            exact no18
          by_cases p4 : (1048576 : Int) < y + ((D r).tl : Int) + ((D r).dig.size : Int)
          · go_wp2_with fail
            go_ret
            exact no18
          go_wp2_with fail
          go_roundg (G - (r + 1))
          case measure => go_light; omega
          case rel => go_light; exact ⟨rfl, r + 1, _, by omega, rfl, by go_num, rfl, by omega, by omega, szR_snoc hft ⟨by omega, by omega, hfj, by omega, by omega⟩⟩
    · have d3 : decide ((r : Int) < (G : Int)) = false := by simp; omega
      obtain rfl : r = G := by omega
      by_cases q1 : (1048576 : Int) < (M : Int)
      · go_wp2_with fail
        go_ret
        exact no18
      by_cases q2 : (1048576 : Int) < z + (M : Int)
      · go_wp2_with fail
        go_ret
        exact no18
      go_wp2_with fail
      go_loopg [9, 12] M (fun g n i wr => w = wr ∧ ∃ (j : Nat) (y : Int), j ≤ M ∧ g = M - j ∧ i = .int .i64 j ∧ n = .int .i64 y ∧ 0 ≤ y ∧ y ≤ 1048576 ∧ SzW j E)
      case atStart => go_light; exact ⟨rfl, 0, _, Nat.zero_le _, rfl, rfl, rfl, by omega, by omega, fun r hr => by omega⟩
      case round =>
        obtain ⟨rfl, j, y, hj, rfl, rfl, rfl, hy0, hy1, hfj⟩ := hrel
        by_cases hjI : j < M
        · have hjz : (j : Int) < (M : Int) := by omega
          obtain rfl := hW.wa (by omega)
          have k1 := hW.c1 j hjI
          have k2 := hW.c2 j hjI
          obtain ⟨b1, b2⟩ := hE j hjI
          by_cases p1 : (1048576 : Int) < ((E j).key.size : Int)
          · go_wp2_with fail
            go_ret
            exact no18
          by_cases p2 : (1048576 : Int) < y + ((E j).key.size : Int)
          · go_wp2_with fail
            go_ret
            exact no18
          by_cases p3 : (1048576 : Int) < ((E j).val.size : Int)
          · go_wp2_with fail
            go_ret
            exact no18
          by_cases p4 : (1048576 : Int) < y + ((E j).key.size : Int) + ((E j).val.size : Int)
          · go_wp2_with fail
            go_ret
            exact no18
          go_wp2_with fail
          go_roundg (M - (j + 1))
          case measure => go_light; omega
          case rel => go_light; exact ⟨rfl, j + 1, _, by omega, rfl, by go_num, rfl, by omega, by omega, szW_snoc hfj (by omega) (by omega)⟩
        · have d4 : decide ((j : Int) < (M : Int)) = false := by simp; omega
          obtain rfl : j = M := by omega
          go_wp2_with fail
          go_ret
          exact ⟨⟨true, rfl, fun _ => ⟨by omega, by omega, hft, hfj⟩⟩, rfl⟩
end Go.Proofs.Qxb6618655a
