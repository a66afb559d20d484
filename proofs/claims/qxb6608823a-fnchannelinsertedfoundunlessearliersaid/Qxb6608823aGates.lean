/-
  THE GATES, WALKED; 'zzAddLen', 'zzAddStrings', WALKED.
-/
import Derived.Test.Qxb6608823aBase
import Derived.Deep.QuietTactic
import Derived.BigQuiet
namespace Go.Proofs.Qxb6608823a
open Go.ChangeShapes Go.WideShapes Go.ChangeAt Go.RowKit

set_option maxHeartbeats 800000 in
theorem bytes7 (a : Option Addr) (len cap : Nat) (a0 : Option Addr) (len0 cap0 : Nat) (s1 : ByteArray) (ss : List ByteArray) (w : World) (h : IsStrs w a len ss) (g0 : len0 ≤ maxLen) (g1 : s1.size ≤ maxLen) :
    Calls Try.prog 7 #[.slice a len cap, .slice a0 len0 cap0, .string s1] w (GateP (Fits len) w) := by
  obtain ⟨h1, h2, h3, h4⟩ := h
  unfold maxLen at h2 g0 g1
  by_cases hl : len ≤ 1048576
  · go_enter Try.func7, Try.ntmps7
    go_wp2
    go_loop [7, 8] (fun n i => ∃ (k : Nat) (z : Int), k ≤ len ∧ i = .int .i64 k ∧ n = .int .i64 z ∧ 0 ≤ z ∧ z ≤ 1048576) (fun _ i => len - (intOf i).toNat)
    case atStart => exact ⟨0, _, Nat.zero_le _, rfl, rfl, by omega, by omega⟩
    case round =>
      obtain ⟨k, z, hk, rfl, rfl, hz0, hz1⟩ := hrel
      by_cases hlt : k < len
      · obtain ⟨b, off, rfl, hb, hcell⟩ := h4 (by omega)
        have hc := hcell k hlt
        obtain ⟨s, hs⟩ : ∃ s, s = ss.getD k ByteArray.empty := ⟨_, rfl⟩
        rw [← hs] at hc
        clear hs hcell h3 h4
        go_wp2
        · go_ret
          exact GateP.no
        · go_ret
          exact GateP.no
        · have hs1 : (s.size : Int) ≤ 1048576 := by assumption
          go_round
          case rel => exact ⟨k + 1, _, by omega, by go_num, rfl, by omega, by omega⟩
          case measure => simp [intOf]; omega
      · clear h3 h4
        have HL : Hid (len ≤ 1048576) := hl
        go_wp2
        all_goals
          go_ret
          first
            | exact GateP.no
            | exact GateP.yes (Fits.mk HL.out)
  · go_enter Try.func7, Try.ntmps7
    go_wp2
    go_ret
    exact GateP.no

set_option maxHeartbeats 800000 in
theorem bytes12 (a : Option Addr) (len cap : Nat) (a0 : Option Addr) (len0 cap0 : Nat) (s1 : ByteArray) (s2 : ByteArray) (ss : List ByteArray) (w : World) (h : IsStrs w a len ss) (g0 : len0 ≤ maxLen) (g1 : s1.size ≤ maxLen) (g2 : s2.size ≤ maxLen) :
    Calls Try.prog 12 #[.slice a len cap, .slice a0 len0 cap0, .string s1, .string s2] w (GateP (Fits len) w) := by
  obtain ⟨h1, h2, h3, h4⟩ := h
  unfold maxLen at h2 g0 g1 g2
  by_cases hl : len ≤ 1048576
  · go_enter Try.func12, Try.ntmps12
    go_wp2
    go_loop [9, 10] (fun n i => ∃ (k : Nat) (z : Int), k ≤ len ∧ i = .int .i64 k ∧ n = .int .i64 z ∧ 0 ≤ z ∧ z ≤ 1048576) (fun _ i => len - (intOf i).toNat)
    case atStart => exact ⟨0, _, Nat.zero_le _, rfl, rfl, by omega, by omega⟩
    case round =>
      obtain ⟨k, z, hk, rfl, rfl, hz0, hz1⟩ := hrel
      by_cases hlt : k < len
      · obtain ⟨b, off, rfl, hb, hcell⟩ := h4 (by omega)
        have hc := hcell k hlt
        obtain ⟨s, hs⟩ : ∃ s, s = ss.getD k ByteArray.empty := ⟨_, rfl⟩
        rw [← hs] at hc
        clear hs hcell h3 h4
        go_wp2
        · go_ret
          exact GateP.no
        · go_ret
          exact GateP.no
        · have hs1 : (s.size : Int) ≤ 1048576 := by assumption
          go_round
          case rel => exact ⟨k + 1, _, by omega, by go_num, rfl, by omega, by omega⟩
          case measure => simp [intOf]; omega
      · clear h3 h4
        have HL : Hid (len ≤ 1048576) := hl
        go_wp2
        all_goals
          go_ret
          first
            | exact GateP.no
            | exact GateP.yes (Fits.mk HL.out)
  · go_enter Try.func12, Try.ntmps12
    go_wp2
    go_ret
    exact GateP.no

set_option maxHeartbeats 800000 in
theorem bytes13 (a : Option Addr) (len cap : Nat) (c0 : Int) (s1 : ByteArray) (ss : List ByteArray) (w : World) (h : IsStrs w a len ss) (g1 : s1.size ≤ maxLen) :
    Calls Try.prog 13 #[.slice a len cap, .int .i64 c0, .string s1] w (GateP (Fits len) w) := by
  obtain ⟨h1, h2, h3, h4⟩ := h
  unfold maxLen at h2 g1
  by_cases hl : len ≤ 1048576
  · go_enter Try.func13, Try.ntmps13
    go_wp2
    go_loop [7, 8] (fun n i => ∃ (k : Nat) (z : Int), k ≤ len ∧ i = .int .i64 k ∧ n = .int .i64 z ∧ 0 ≤ z ∧ z ≤ 1048576) (fun _ i => len - (intOf i).toNat)
    case atStart => exact ⟨0, _, Nat.zero_le _, rfl, rfl, by omega, by omega⟩
    case round =>
      obtain ⟨k, z, hk, rfl, rfl, hz0, hz1⟩ := hrel
      by_cases hlt : k < len
      · obtain ⟨b, off, rfl, hb, hcell⟩ := h4 (by omega)
        have hc := hcell k hlt
        obtain ⟨s, hs⟩ : ∃ s, s = ss.getD k ByteArray.empty := ⟨_, rfl⟩
        rw [← hs] at hc
        clear hs hcell h3 h4
        go_wp2
        · go_ret
          exact GateP.no
        · go_ret
          exact GateP.no
        · have hs1 : (s.size : Int) ≤ 1048576 := by assumption
          go_round
          case rel => exact ⟨k + 1, _, by omega, by go_num, rfl, by omega, by omega⟩
          case measure => simp [intOf]; omega
      · clear h3 h4
        have HL : Hid (len ≤ 1048576) := hl
        go_wp2
        all_goals
          go_ret
          first
            | exact GateP.no
            | exact GateP.yes (Fits.mk HL.out)
  · go_enter Try.func13, Try.ntmps13
    go_wp2
    go_ret
    exact GateP.no

set_option maxHeartbeats 800000 in
theorem bytes18 (a : Option Addr) (len cap : Nat) (c0 : Int) (s1 : ByteArray) (s2 : ByteArray) (ss : List ByteArray) (w : World) (h : IsStrs w a len ss) (g1 : s1.size ≤ maxLen) (g2 : s2.size ≤ maxLen) :
    Calls Try.prog 18 #[.slice a len cap, .int .i64 c0, .string s1, .string s2] w (GateP (Fits len) w) := by
  obtain ⟨h1, h2, h3, h4⟩ := h
  unfold maxLen at h2 g1 g2
  by_cases hl : len ≤ 1048576
  · go_enter Try.func18, Try.ntmps18
    go_wp2
    go_loop [9, 10] (fun n i => ∃ (k : Nat) (z : Int), k ≤ len ∧ i = .int .i64 k ∧ n = .int .i64 z ∧ 0 ≤ z ∧ z ≤ 1048576) (fun _ i => len - (intOf i).toNat)
    case atStart => exact ⟨0, _, Nat.zero_le _, rfl, rfl, by omega, by omega⟩
    case round =>
      obtain ⟨k, z, hk, rfl, rfl, hz0, hz1⟩ := hrel
      by_cases hlt : k < len
      · obtain ⟨b, off, rfl, hb, hcell⟩ := h4 (by omega)
        have hc := hcell k hlt
        obtain ⟨s, hs⟩ : ∃ s, s = ss.getD k ByteArray.empty := ⟨_, rfl⟩
        rw [← hs] at hc
        clear hs hcell h3 h4
        go_wp2
        · go_ret
          exact GateP.no
        · go_ret
          exact GateP.no
        · have hs1 : (s.size : Int) ≤ 1048576 := by assumption
          go_round
          case rel => exact ⟨k + 1, _, by omega, by go_num, rfl, by omega, by omega⟩
          case measure => simp [intOf]; omega
      · clear h3 h4
        have HL : Hid (len ≤ 1048576) := hl
        go_wp2
        all_goals
          go_ret
          first
            | exact GateP.no
            | exact GateP.yes (Fits.mk HL.out)
  · go_enter Try.func18, Try.ntmps18
    go_wp2
    go_ret
    exact GateP.no

def addLen (t n : Int) : Int := if 1048576 < t ∨ 1048576 - t < n then 1048577 else t + n
theorem addLen_bd {t n : Int} (h0 : 0 ≤ t) (hn : 0 ≤ n) : 0 ≤ addLen t n ∧ addLen t n ≤ 1048577 := by
  unfold addLen
  split <;> omega

set_option maxHeartbeats 400000 in
theorem add8 (t n : Int) (w : World) (h0 : 0 ≤ t) (h1 : t ≤ 1048577) (hn0 : 0 ≤ n) :
    Calls Try.prog 8 #[.int .i64 t, .int .i64 n] w fun e w' => e = .returned (.int .i64 (addLen t n)) ∧ w' = w := by
  by_cases ht : 1048576 < t
  · have e : addLen t n = 1048577 := if_pos (Or.inl ht)
    rw [e]
    clear e
    go_enter Try.func8, Try.ntmps8
    go_wp2
    go_ret
    exact ⟨rfl, rfl⟩
  · by_cases hn : 1048576 - t < n
    · have e : addLen t n = 1048577 := if_pos (Or.inr hn)
      rw [e]
      clear e
      go_enter Try.func8, Try.ntmps8
      go_wp2
      go_ret
      exact ⟨rfl, rfl⟩
    · have e : addLen t n = t + n := if_neg (by omega)
      rw [e]
      clear e
      go_enter Try.func8, Try.ntmps8
      go_wp2
      go_ret
      exact ⟨rfl, rfl⟩

/-- What 'zzAddStrings' leaves: a number within bounds; nothing is written. -/
def SumP (w : World) (e : Ending) (w' : World) : Prop := ∃ (t : Int) (q : Nat), e = .returned (.int .i64 t) ∧ w' = w.drewN q ∧ 0 ≤ t ∧ t ≤ 1048577
theorem SumP.mk {w : World} {t : Int} {q : Nat} (h0 : 0 ≤ t) (h1 : t ≤ 1048577) : SumP w (.returned (.int .i64 t)) (w.drewN q) := ⟨t, q, rfl, rfl, h0, h1⟩

set_option maxHeartbeats 400000 in
theorem add9 (a : Option Addr) (len cap : Nat) (t : Int) (ss : List ByteArray) (w : World) (h : IsStrs w a len ss) (h0 : 0 ≤ t) (h1 : t ≤ 1048577) :
    Calls Try.prog 9 #[.int .i64 t, .slice a len cap] w (SumP w) := by
  have hsz := h.sz
  obtain ⟨s1, s2, s3, s4⟩ := h
  unfold maxLen at s2
  go_enter Try.func9, Try.ntmps9
  go_wp2
  go_loopw [0, 5] (fun n i wr => ∃ (k q : Nat) (z : Int), k ≤ len ∧ i = .int .i64 k ∧ n = .int .i64 z ∧ 0 ≤ z ∧ z ≤ 1048577 ∧ wr = w.drewN q) (fun _ i _ => len - (intOf i).toNat)
  case atStart => exact ⟨0, 0, t, Nat.zero_le _, rfl, rfl, h0, h1, rfl⟩
  case round =>
    obtain ⟨k, q, z, hk, rfl, rfl, hz0, hz1, hwr⟩ := hrel
    by_cases hlt : k < len
    · obtain ⟨b, off, rfl, hb, hcell⟩ := s4 (by omega)
      have hc : wr.cell? ⟨b, off + k, none⟩ = some (.string (ss.getD k ByteArray.empty)) := by rw [hwr]; exact hcell k hlt
      have HW : Hid (wr = w.drewN q) := hwr
      have hs2 := hsz k
      unfold maxLen at hs2
      obtain ⟨s, hs⟩ : ∃ s, s = ss.getD k ByteArray.empty := ⟨_, rfl⟩
      rw [← hs] at hc hs2
      clear hs hcell s3 s4 hsz hwr
      have kint0 : (0 : Int) ≤ (k : Int) := by omega
      have kint1 : (k : Int) < (len : Int) := by omega
      obtain ⟨b10, b11⟩ := addLen_bd (n := 16) hz0 (by decide)
      obtain ⟨b20, b21⟩ := addLen_bd (n := s.size) b10 (by omega)
      go_wp2
      go_quiet ((go_at_call 8; exact Calls.quiet_of_same (add8 _ _ _ (by assumption) (by assumption) (by first | decide | omega))))
      obtain ⟨z2, hz2e⟩ : ∃ z2, z2 = addLen (addLen z 16) s.size := ⟨_, rfl⟩
      rw [← hz2e] at b20 b21 ⊢
      clear hz2e b10 b11
      by_cases hz : z2 ≤ 1048576
      · go_wp2
        go_roundw
        case rel => exact ⟨k + 1, q + nq, z2, by omega, by go_num, rfl, b20, b21, by rw [HW.out]; exact World.drewN_drewN ..⟩
        case measure => simp [intOf]; omega
      · go_wp2
        go_ret
        rw [HW.out, World.drewN_drewN]
        exact SumP.mk b20 b21
    · subst hwr
      go_wp2
      go_ret
      exact SumP.mk hz0 hz1
end Go.Proofs.Qxb6608823a
