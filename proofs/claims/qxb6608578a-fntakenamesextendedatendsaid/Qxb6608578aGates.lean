/-
  THE GATES OF THE FIRST TWO LAWS, AND 'zzAddStrs', WALKED.
-/
import Derived.Test.Qxb6608578aBase
namespace Go.Proofs.Qxb6608578a
open Go.ChangeShapes Go.WideShapes Go.ChangeAt Go.RowKit

theorem small_step {ss : List ByteArray} {k : Nat} {s : ByteArray} (h : ∀ j, j < k → (ss.getD j ByteArray.empty).size ≤ 1048576) (hs : s = ss.getD k ByteArray.empty) (hz : s.size ≤ 1048576) :
    ∀ j, j < k + 1 → (ss.getD j ByteArray.empty).size ≤ 1048576 := by
  intro j hj
  by_cases e : j = k
  · subst e; rw [← hs]; exact hz
  · exact h j (by omega)

set_option maxHeartbeats 400000 in
theorem bytes7 (a : Option Addr) (len cap : Nat) (c k0 : Int) (ss : List ByteArray) (w : World) (h : IsStrs w a len ss) :
    Calls Try.prog 7 #[.slice a len cap, .int .i64 c, .int .i64 k0] w (GateP (Small len ss) w) := by
  obtain ⟨h1, h2, h3, h4⟩ := h
  unfold maxLen at h2
  by_cases hl : len ≤ 1048576
  · go_enter Try.func7, Try.ntmps7
    go_wp2
    go_loop [7, 8] (fun n i => ∃ (k : Nat) (z : Int), k ≤ len ∧ i = .int .i64 k ∧ n = .int .i64 z ∧ 0 ≤ z ∧ z ≤ 1048576 ∧ ∀ j, j < k → (ss.getD j ByteArray.empty).size ≤ 1048576) (fun _ i => len - (intOf i).toNat)
    case atStart => exact ⟨0, _, Nat.zero_le _, rfl, rfl, by omega, by omega, fun j hj => by omega⟩
    case round =>
      obtain ⟨k, z, hk, rfl, rfl, hz0, hz1, hall⟩ := hrel
      by_cases hlt : k < len
      · obtain ⟨b, off, rfl, hb, hcell⟩ := h4 (by omega)
        have hc := hcell k hlt
        obtain ⟨s, hs⟩ : ∃ s, s = ss.getD k ByteArray.empty := ⟨_, rfl⟩
        rw [← hs] at hc
        have HS : Hid (s = ss.getD k ByteArray.empty) := hs
        have HA : Hid (∀ j, j < k → (ss.getD j ByteArray.empty).size ≤ 1048576) := hall
        clear hs hcell hall h3 h4
        go_wp2
        · go_ret
          exact GateP.no
        · go_ret
          exact GateP.no
        · have hs1 : (s.size : Int) ≤ 1048576 := by assumption
          go_round
          case rel => exact ⟨k + 1, _, by omega, by go_num, rfl, by omega, by omega, small_step HA.out HS.out (by omega)⟩
          case measure => simp [intOf]; omega
      · go_wp2
        go_ret
        exact GateP.yes ⟨hl, fun i hi => hall i (by omega)⟩
  · go_enter Try.func7, Try.ntmps7
    go_wp2
    go_ret
    exact GateP.no

set_option maxHeartbeats 400000 in
theorem bytes13 (a : Option Addr) (len cap : Nat) (c : Int) (ss : List ByteArray) (w : World) (h : IsStrs w a len ss) :
    Calls Try.prog 13 #[.slice a len cap, .int .i64 c] w (GateP (Small len ss) w) := by
  obtain ⟨h1, h2, h3, h4⟩ := h
  unfold maxLen at h2
  by_cases hl : len ≤ 1048576
  · go_enter Try.func13, Try.ntmps13
    go_wp2
    go_loop [5, 6] (fun n i => ∃ (k : Nat) (z : Int), k ≤ len ∧ i = .int .i64 k ∧ n = .int .i64 z ∧ 0 ≤ z ∧ z ≤ 1048576 ∧ ∀ j, j < k → (ss.getD j ByteArray.empty).size ≤ 1048576) (fun _ i => len - (intOf i).toNat)
    case atStart => exact ⟨0, _, Nat.zero_le _, rfl, rfl, by omega, by omega, fun j hj => by omega⟩
    case round =>
      obtain ⟨k, z, hk, rfl, rfl, hz0, hz1, hall⟩ := hrel
      by_cases hlt : k < len
      · obtain ⟨b, off, rfl, hb, hcell⟩ := h4 (by omega)
        have hc := hcell k hlt
        obtain ⟨s, hs⟩ : ∃ s, s = ss.getD k ByteArray.empty := ⟨_, rfl⟩
        rw [← hs] at hc
        have HS : Hid (s = ss.getD k ByteArray.empty) := hs
        have HA : Hid (∀ j, j < k → (ss.getD j ByteArray.empty).size ≤ 1048576) := hall
        clear hs hcell hall h3 h4
        go_wp2
        · go_ret
          exact GateP.no
        · go_ret
          exact GateP.no
        · have hs1 : (s.size : Int) ≤ 1048576 := by assumption
          go_round
          case rel => exact ⟨k + 1, _, by omega, by go_num, rfl, by omega, by omega, small_step HA.out HS.out (by omega)⟩
          case measure => simp [intOf]; omega
      · go_wp2
        go_ret
        exact GateP.yes ⟨hl, fun i hi => hall i (by omega)⟩
  · go_enter Try.func13, Try.ntmps13
    go_wp2
    go_ret
    exact GateP.no

/-- What 'zzAddStrs' leaves: a number within bounds; nothing is written. -/
def SumP (w : World) (e : Ending) (w' : World) : Prop := ∃ t : Int, e = .returned (.int .i64 t) ∧ w' = w ∧ 0 ≤ t ∧ t ≤ 20000000
theorem SumP.mk {w : World} {t : Int} (h0 : 0 ≤ t) (h1 : t ≤ 20000000) : SumP w (.returned (.int .i64 t)) w := ⟨t, rfl, rfl, h0, h1⟩

set_option maxHeartbeats 400000 in
theorem add8 (a : Option Addr) (len cap : Nat) (t : Int) (ss : List ByteArray) (w : World) (h : IsStrs w a len ss) (hsm : Small len ss) (ht : 0 ≤ t) :
    Calls Try.prog 8 #[.int .i64 t, .slice a len cap] w (SumP w) := by
  obtain ⟨h1, h2, h3, h4⟩ := h
  obtain ⟨hl, hsz⟩ := hsm
  by_cases hlt0 : t ≤ 1048576
  · clear h2
    go_enter Try.func8, Try.ntmps8
    go_wp2
    go_loop [0, 5] (fun n i => ∃ (k : Nat) (z : Int), k ≤ len ∧ i = .int .i64 k ∧ n = .int .i64 z ∧ 0 ≤ z ∧ z ≤ 20000000) (fun _ i => len - (intOf i).toNat)
    case atStart => exact ⟨0, _, Nat.zero_le _, rfl, rfl, by omega, by omega⟩
    case round =>
      obtain ⟨k, z, hk, rfl, rfl, hz0, hz1⟩ := hrel
      by_cases hlt : k < len
      · obtain ⟨b, off, rfl, hb, hcell⟩ := h4 (by omega)
        have hc := hcell k hlt
        have hs1 := hsz k hlt
        obtain ⟨s, hs⟩ : ∃ s, s = ss.getD k ByteArray.empty := ⟨_, rfl⟩
        rw [← hs] at hc hs1
        clear hs hcell h3 h4 hsz
        by_cases hz : z ≤ 1048576
        · go_wp2
          go_round
          case rel => exact ⟨k + 1, _, by omega, by go_num, rfl, by omega, by omega⟩
          case measure => simp [intOf]; omega
        · go_wp2
          go_ret
          exact SumP.mk hz0 hz1
      · go_wp2
        go_ret
        exact SumP.mk hz0 hz1
  · go_enter Try.func8, Try.ntmps8
    go_wp2
    go_ret
    exact SumP.mk (by decide) (by decide)
end Go.Proofs.Qxb6608578a
