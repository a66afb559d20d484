/-
  'zzBuildObjs', 'objectsOf', 'ZZobjectsOf', WALKED.
-/
import Derived.Test.Qxb6608823aMap
namespace Go.Proofs.Qxb6608823a
open Go.ChangeShapes Go.WideShapes Go.ChangeAt Go.RowKit

theorem run_make27 (w : World) (n : Int) : (Instr.makeMap 27 (some (.int .i64 n))).run Try.prog w = .ok (.map (some w.heap.size)) (w.alloc (.map #[] 0)) := by
  simp [Instr.makeMap, run_underlying Try.underlying27, asInt]
  rfl
attribute [local go_sem] run_make27

/-- What 'zzBuildObjs' leaves: two maps that hold the same. -/
def BuildP (len : Nat) (ss : List ByteArray) (w : World) (e : Ending) (w' : World) : Prop :=
  ∃ D, e = .returned (.tuple #[.map (some w.heap.size), .map (some (w.heap.size + 1))]) ∧ PM w' w.heap.size len D ∧ PM w' (w.heap.size + 1) len D ∧ Good w' D ∧
    (∀ i, i < len → pH D (ss.getD i ByteArray.empty) = true) ∧ Below w.heap.size w w'

/-- The state at a round's head. -/
def Built (ss : List ByteArray) (w : World) (k : Nat) (wr : World) : Prop :=
  ∃ D, PM wr w.heap.size k D ∧ PM wr (w.heap.size + 1) k D ∧ Good wr D ∧ (∀ i, i < k → pH D (ss.getD i ByteArray.empty) = true) ∧ Below w.heap.size w wr


theorem Built.start (ss : List ByteArray) (w : World) : Built ss w 0 ((w.alloc (.map #[] 0)).alloc (.map #[] 0)) := by
  have h1 : PM ((w.alloc (.map #[] 0)).alloc (.map #[] 0)) w.heap.size 0 (.map []) := (PM.made w).alloc _
  have h2 := PM.made (w.alloc (.map #[] 0))
  have e : (w.alloc (.map #[] 0)).heap.size = w.heap.size + 1 := by simp
  rw [e] at h2
  exact ⟨.map [], h1, h2, Good.empty _, fun i hi => absurd hi (Nat.not_lt_zero _), ((Below.refl _ _).alloc (Nat.le_refl _) _).alloc (by simp) _⟩

/-- Two stores, one behind the other, of one pointer at one key. -/
theorem stores {ss : List ByteArray} {w wr : World} {k : Nat} {D : PD} (hm : PM wr w.heap.size k D) (hb : PM wr (w.heap.size + 1) k D) (hall : ∀ i, i < k → pH D (ss.getD i ByteArray.empty) = true) (hbel : Below w.heap.size w wr)
    {s : ByteArray} (hs : s = ss.getD k ByteArray.empty) (hss : s.size ≤ maxLen) (hk : k < 1048576) (p : Option Addr) (hgood : Good wr (pPut D s p)) :
    ∃ w1 w2, (Instr.mapUpdate 27 (.map (some w.heap.size)) (.string s) (.pointer p)).run Try.prog wr = .ok () w1 ∧ (Instr.mapUpdate 27 (.map (some (w.heap.size + 1))) (.string s) (.pointer p)).run Try.prog w1 = .ok () w2 ∧
      (∀ b o, b < w.heap.size → w1.cell? ⟨b, o, none⟩ = wr.cell? ⟨b, o, none⟩) ∧ Built ss w (k + 1) w2 := by
  have hmax : k < maxLen := by unfold maxLen; omega
  obtain ⟨w1, r1, m1, g1, z1⟩ := hm.store hmax hss p
  have hb1 := hb.kept g1 (by simp)
  obtain ⟨w2, r2, m2, g2, z2⟩ := hb1.store hmax hss p
  have b1 : Below w.heap.size w w1 := hbel.grown g1 hbel.size (fun j hj => by cases hj; exact Nat.le_refl _)
  have b2 : Below w.heap.size w w2 := b1.grown g2 b1.size (fun j hj => by cases hj; exact Nat.le_succ _)
  refine ⟨w1, w2, r1, r2, fun b o hlt => ?_, pPut D s p, m1.kept g2 (by simp), m2, ?_, ?_, b2⟩
  · rw [b1.cell (p := ⟨b, o, none⟩) hlt, hbel.cell (p := ⟨b, o, none⟩) hlt]
  · have q1 := hgood.kept g1 (fun q hq e => hm.apart hq (Option.some.inj e))
    exact q1.kept g2 (fun q hq e => hb1.apart hq (Option.some.inj e))
  · intro i hi
    by_cases e : ss.getD i ByteArray.empty = s
    · rw [e]; exact pH_put_same hm s p
    · rw [pH_put_other e]
      by_cases e2 : i = k
      · subst e2; exact absurd hs.symm e
      · exact hall i (by omega)

theorem step_new {ss : List ByteArray} {w wr : World} {k : Nat} {D : PD} (hm : PM wr w.heap.size k D) (hb : PM wr (w.heap.size + 1) k D) (hgood : Good wr D) (hall : ∀ i, i < k → pH D (ss.getD i ByteArray.empty) = true) (hbel : Below w.heap.size w wr)
    {s : ByteArray} (hs : s = ss.getD k ByteArray.empty) (hss : s.size ≤ maxLen) (hk : k < 1048576) :
    ∃ w1 w2, (Instr.mapUpdate 27 (.map (some w.heap.size)) (.string s) (.pointer (some ⟨wr.heap.size, 0, none⟩))).run Try.prog (wr.alloc (Go.Obj.cells #[Value.slice none 0 0, Value.slice none 0 0, Value.slice none 0 0] 53)) = .ok () w1 ∧ (Instr.mapUpdate 27 (.map (some (w.heap.size + 1))) (.string s) (.pointer (some ⟨wr.heap.size, 0, none⟩))).run Try.prog w1 = .ok () w2 ∧
      (∀ b o, b < w.heap.size → w1.cell? ⟨b, o, none⟩ = wr.cell? ⟨b, o, none⟩) ∧ Built ss w (k + 1) w2 := by
  have hg := World.grownBy_alloc wr (Go.Obj.cells #[Value.slice none 0 0, Value.slice none 0 0, Value.slice none 0 0] 53) none
  have bel := hbel.alloc hbel.size (Go.Obj.cells #[Value.slice none 0 0, Value.slice none 0 0, Value.slice none 0 0] 53)
  have good := hgood.kept hg (fun q _ => by simp)
  have fresh : ∀ t, pA D t ≠ some ⟨wr.heap.size, 0, none⟩ := fun t ht => by
    have := (hgood.1 t _ ht).lt
    exact Nat.lt_irrefl _ this
  obtain ⟨w1, w2, r1, r2, hc, hbt⟩ := stores (hm.alloc _) (hb.alloc _) hall bel hs hss hk (some ⟨wr.heap.size, 0, none⟩) (good.put_new (hm.alloc _) s (Obj.new wr _ _) fresh)
  refine ⟨w1, w2, r1, r2, fun b o hlt => ?_, hbt⟩
  rw [hc b o hlt, bel.cell (p := ⟨b, o, none⟩) hlt, hbel.cell (p := ⟨b, o, none⟩) hlt]

set_option maxHeartbeats 800000 in
theorem build10 (a : Option Addr) (len cap : Nat) (a' : Option Addr) (len' cap' : Nat) (ss : List ByteArray) (bs : List Bool) (w : World) (h : IsStrs w a len ss) (h' : IsBools w a' len' bs) (hl : len ≤ 1048576) :
    Calls Try.prog 10 #[.slice a len cap, .slice a' len' cap'] w (BuildP len ss w) := by
  have hsz := h.sz
  obtain ⟨h1, h2, h3, h4⟩ := h
  obtain ⟨h1', h2', h4'⟩ := h'
  unfold maxLen at h2'
  clear h2 h3
  go_enter Try.func10, Try.ntmps10
  go_wp2
  go_loopw [8] (fun i wr => ∃ k : Nat, k ≤ len ∧ i = .int .i64 k ∧ Built ss w k wr) (fun i _ => len - (intOf i).toNat)
  case atStart => exact ⟨0, Nat.zero_le _, rfl, Built.start ss w⟩
  case round =>
    obtain ⟨k, hk, rfl, D, hm, hb, hgood, hall, hbel⟩ := hrel
    by_cases hlt : k < len
    · obtain ⟨b, off, rfl, hbl, hcell⟩ := h4 (by omega)
      have hc : wr.cell? ⟨b, off + k, none⟩ = some (.string (ss.getD k ByteArray.empty)) := (hbel.cell (p := ⟨b, off + k, none⟩) hbl).trans (hcell k hlt)
      obtain ⟨s, hs⟩ : ∃ s, s = ss.getD k ByteArray.empty := ⟨_, rfl⟩
      rw [← hs] at hc
      have hss := hsz k
      rw [← hs] at hss
      have NEW := step_new hm hb hgood hall hbel hs hss (by omega)
      have NIL := stores hm hb hall hbel hs hss (by omega) none (hgood.put_nil hm s)
      have hbr : b < wr.heap.size := Nat.lt_of_lt_of_le hbl hbel.size
      have hca : (wr.alloc (Go.Obj.cells #[Value.slice none 0 0, Value.slice none 0 0, Value.slice none 0 0] 53)).cell? ⟨b, off + k, none⟩ = some (.string s) :=
        (World.cell?_alloc_lt wr _ ⟨b, off + k, none⟩ hbr).trans hc
      clear hs hcell h4 hsz
      by_cases hn : k < len'
      · obtain ⟨b2, off2, rfl, hbl2, hcell2⟩ := h4' (by omega)
        have hc2 : wr.cell? ⟨b2, off2 + k, none⟩ = some (.bool (bs.getD k false)) := (hbel.cell (p := ⟨b2, off2 + k, none⟩) hbl2).trans (hcell2 k hn)
        clear hcell2 h4' hm hb hgood hall hbel
        cases hbv : bs.getD k false
        · rw [hbv] at hc2
          obtain ⟨w1, w2, r1, r2, hcc, hbt⟩ := NEW
          have hc1 : w1.cell? ⟨b, off + k, none⟩ = some (.string s) := (hcc _ _ hbl).trans hc
          clear NIL hcc hbv
          go_wp2
          go_roundw
          case rel => exact ⟨k + 1, by omega, by go_num, hbt⟩
          case measure => simp [intOf]; omega
        · rw [hbv] at hc2
          obtain ⟨w1, w2, r1, r2, hcc, hbt⟩ := NIL
          have hc1 : w1.cell? ⟨b, off + k, none⟩ = some (.string s) := (hcc _ _ hbl).trans hc
          clear NEW hcc hbv hca
          go_wp2
          go_roundw
          case rel => exact ⟨k + 1, by omega, by go_num, hbt⟩
          case measure => simp [intOf]; omega
      · clear h4' hm hb hgood hall hbel
        obtain ⟨w1, w2, r1, r2, hcc, hbt⟩ := NEW
        have hc1 : w1.cell? ⟨b, off + k, none⟩ = some (.string s) := (hcc _ _ hbl).trans hc
        clear NIL hcc
        go_wp2
        go_roundw
        case rel => exact ⟨k + 1, by omega, by go_num, hbt⟩
        case measure => simp [intOf]; omega
    · obtain rfl : k = len := by omega
      have B : BuildP k ss w (.returned (.tuple #[.map (some w.heap.size), .map (some (w.heap.size + 1))])) wr := ⟨D, rfl, hm, hb, hgood, hall, hbel⟩
      clear hm hb hgood hall hbel h4 h4' hsz
      go_wp2
      go_ret2
      exact B
end Go.Proofs.Qxb6608823a
