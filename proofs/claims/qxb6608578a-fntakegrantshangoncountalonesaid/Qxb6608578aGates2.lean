/-
  THE GATES OF THE LAST TWO LAWS, WALKED.
-/
import Derived.Test.Qxb6608578aGates
namespace Go.Proofs.Qxb6608578a
open Go.ChangeShapes Go.WideShapes Go.ChangeAt Go.RowKit

set_option maxHeartbeats 800000 in
theorem bytes14 (a : Option Addr) (len cap : Nat) (a' : Option Addr) (len' cap' : Nat) (c k0 : Int) (ss ss' : List ByteArray) (w : World) (h : IsStrs w a len ss) (h' : IsStrs w a' len' ss') :
    Calls Try.prog 14 #[.slice a len cap, .slice a' len' cap', .int .i64 c, .int .i64 k0] w (GateP (Small len ss ∧ Small len' ss' ∧ len + len' ≤ 1048576) w) := by
  obtain ⟨h1, h2, h3, h4⟩ := h
  obtain ⟨h1', h2', h3', h4'⟩ := h'
  unfold maxLen at h2 h2'
  by_cases hl : len ≤ 1048576
  · go_enter Try.func14, Try.ntmps14
    go_wp2
    go_loop [9, 10] (fun n i => ∃ (k : Nat) (z : Int), k ≤ len ∧ i = .int .i64 k ∧ n = .int .i64 z ∧ (len : Int) ≤ z ∧ z ≤ 1048576 ∧ ∀ j, j < k → (ss.getD j ByteArray.empty).size ≤ 1048576) (fun _ i => len - (intOf i).toNat)
    case atStart => exact ⟨0, _, Nat.zero_le _, rfl, rfl, by omega, by omega, fun j hj => by omega⟩
    case round =>
      obtain ⟨k, z, hk, rfl, rfl, hz0, hz1, hall⟩ := hrel
      by_cases hlt : k < len
      · obtain ⟨b, off, rfl, hb, hcell⟩ := h4 (by omega)
        have hc := hcell k hlt
        obtain ⟨s, hs⟩ : ∃ s, s = ss.getD k ByteArray.empty := ⟨_, rfl⟩
        rw [← hs] at hc
        have HS : Hid (s = ss.getD k ByteArray.empty) := hs
        have HA : Hid (∀ j, j < k → (ss.getD j ByteArray.empty).size ≤ 1048576) := hall
        clear hs hcell hall h3 h4 h3' h4'
        go_wp2
        · go_ret
          exact GateP.no
        · go_ret
          exact GateP.no
        · have hs1 : (s.size : Int) ≤ 1048576 := by assumption
          go_round
          case rel => exact ⟨k + 1, _, by omega, by go_num, rfl, by omega, by omega, small_step HA.out HS.out (by omega)⟩
          case measure => simp [intOf]; omega
      · have HA : Hid (Small len ss) := ⟨hl, fun i hi => hall i (by omega)⟩
        clear hall h3 h4
        by_cases hl' : len' ≤ 1048576
        · by_cases hzl : z + len' ≤ 1048576
          · go_wp2
            go_loop [9, 11] (fun n i => ∃ (k : Nat) (z : Int), k ≤ len' ∧ i = .int .i64 k ∧ n = .int .i64 z ∧ 0 ≤ z ∧ z ≤ 1048576 ∧ ∀ j, j < k → (ss'.getD j ByteArray.empty).size ≤ 1048576) (fun _ i => len' - (intOf i).toNat)
            case atStart => exact ⟨0, _, Nat.zero_le _, rfl, rfl, by omega, by omega, fun j hj => by omega⟩
            case round =>
              obtain ⟨k', z', hk', rfl, rfl, hz0', hz1', hall'⟩ := hrel
              by_cases hlt' : k' < len'
              · obtain ⟨b, off, rfl, hb, hcell⟩ := h4' (by omega)
                have hc := hcell k' hlt'
                obtain ⟨s, hs⟩ : ∃ s, s = ss'.getD k' ByteArray.empty := ⟨_, rfl⟩
                rw [← hs] at hc
                have HS : Hid (s = ss'.getD k' ByteArray.empty) := hs
                have HA' : Hid (∀ j, j < k' → (ss'.getD j ByteArray.empty).size ≤ 1048576) := hall'
                clear hs hcell hall' h3' h4'
                go_wp2
                · go_ret
                  exact GateP.no
                · go_ret
                  exact GateP.no
                · have hs1 : (s.size : Int) ≤ 1048576 := by assumption
                  go_round
                  case rel => exact ⟨k' + 1, _, by omega, by go_num, rfl, by omega, by omega, small_step HA'.out HS.out (by omega)⟩
                  case measure => simp [intOf]; omega
              · go_wp2
                go_ret
                exact GateP.yes ⟨HA.out, ⟨hl', fun i hi => hall' i (by omega)⟩, by omega⟩
          · go_wp2
            go_ret
            exact GateP.no
        · go_wp2
          go_ret
          exact GateP.no
  · go_enter Try.func14, Try.ntmps14
    go_wp2
    go_ret
    exact GateP.no

set_option maxHeartbeats 800000 in
theorem bytes15 (a : Option Addr) (len cap : Nat) (a' : Option Addr) (len' cap' : Nat) (c k0 : Int) (ss ss' : List ByteArray) (w : World) (h : IsStrs w a len ss) (h' : IsStrs w a' len' ss') :
    Calls Try.prog 15 #[.slice a len cap, .slice a' len' cap', .int .i64 c, .int .i64 k0] w (GateP (Small len ss ∧ Small len' ss' ∧ len + len' ≤ 1048576) w) := by
  obtain ⟨h1, h2, h3, h4⟩ := h
  obtain ⟨h1', h2', h3', h4'⟩ := h'
  unfold maxLen at h2 h2'
  by_cases hl : len ≤ 1048576
  · go_enter Try.func15, Try.ntmps15
    go_wp2
    go_loop [9, 10] (fun n i => ∃ (k : Nat) (z : Int), k ≤ len ∧ i = .int .i64 k ∧ n = .int .i64 z ∧ (len : Int) ≤ z ∧ z ≤ 1048576 ∧ ∀ j, j < k → (ss.getD j ByteArray.empty).size ≤ 1048576) (fun _ i => len - (intOf i).toNat)
    case atStart => exact ⟨0, _, Nat.zero_le _, rfl, rfl, by omega, by omega, fun j hj => by omega⟩
    case round =>
      obtain ⟨k, z, hk, rfl, rfl, hz0, hz1, hall⟩ := hrel
      by_cases hlt : k < len
      · obtain ⟨b, off, rfl, hb, hcell⟩ := h4 (by omega)
        have hc := hcell k hlt
        obtain ⟨s, hs⟩ : ∃ s, s = ss.getD k ByteArray.empty := ⟨_, rfl⟩
        rw [← hs] at hc
        have HS : Hid (s = ss.getD k ByteArray.empty) := hs
        have HA : Hid (∀ j, j < k → (ss.getD j ByteArray.empty).size ≤ 1048576) := hall
        clear hs hcell hall h3 h4 h3' h4'
        go_wp2
        · go_ret
          exact GateP.no
        · go_ret
          exact GateP.no
        · have hs1 : (s.size : Int) ≤ 1048576 := by assumption
          go_round
          case rel => exact ⟨k + 1, _, by omega, by go_num, rfl, by omega, by omega, small_step HA.out HS.out (by omega)⟩
          case measure => simp [intOf]; omega
      · have HA : Hid (Small len ss) := ⟨hl, fun i hi => hall i (by omega)⟩
        clear hall h3 h4
        by_cases hl' : len' ≤ 1048576
        · by_cases hzl : z + len' ≤ 1048576
          · go_wp2
            go_loop [9, 11] (fun n i => ∃ (k : Nat) (z : Int), k ≤ len' ∧ i = .int .i64 k ∧ n = .int .i64 z ∧ 0 ≤ z ∧ z ≤ 1048576 ∧ ∀ j, j < k → (ss'.getD j ByteArray.empty).size ≤ 1048576) (fun _ i => len' - (intOf i).toNat)
            case atStart => exact ⟨0, _, Nat.zero_le _, rfl, rfl, by omega, by omega, fun j hj => by omega⟩
            case round =>
              obtain ⟨k', z', hk', rfl, rfl, hz0', hz1', hall'⟩ := hrel
              by_cases hlt' : k' < len'
              · obtain ⟨b, off, rfl, hb, hcell⟩ := h4' (by omega)
                have hc := hcell k' hlt'
                obtain ⟨s, hs⟩ : ∃ s, s = ss'.getD k' ByteArray.empty := ⟨_, rfl⟩
                rw [← hs] at hc
                have HS : Hid (s = ss'.getD k' ByteArray.empty) := hs
                have HA' : Hid (∀ j, j < k' → (ss'.getD j ByteArray.empty).size ≤ 1048576) := hall'
                clear hs hcell hall' h3' h4'
                go_wp2
                · go_ret
                  exact GateP.no
                · go_ret
                  exact GateP.no
                · have hs1 : (s.size : Int) ≤ 1048576 := by assumption
                  go_round
                  case rel => exact ⟨k' + 1, _, by omega, by go_num, rfl, by omega, by omega, small_step HA'.out HS.out (by omega)⟩
                  case measure => simp [intOf]; omega
              · go_wp2
                go_ret
                exact GateP.yes ⟨HA.out, ⟨hl', fun i hi => hall' i (by omega)⟩, by omega⟩
          · go_wp2
            go_ret
            exact GateP.no
        · go_wp2
          go_ret
          exact GateP.no
  · go_enter Try.func15, Try.ntmps15
    go_wp2
    go_ret
    exact GateP.no
end Go.Proofs.Qxb6608578a
