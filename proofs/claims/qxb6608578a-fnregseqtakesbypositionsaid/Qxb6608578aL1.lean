/-
  'FnRegSeqTakesByPosition', WALKED.
-/
import Derived.Test.Qxb6608578aGates
import Derived.Test.Qxb6608578aCopy
import Derived.Test.Qxb6608578aSeq
namespace Go.Proofs.Qxb6608578a
open Go.ChangeShapes Go.WideShapes Go.ChangeAt Go.RowKit

set_option maxHeartbeats 1000000 in
theorem walk3 (a0 : Option Addr) (len cap : Nat) (ss : List ByteArray) (c k : Int) (w : World) (h : IsStrs w a0 len ss) :
    Calls Try.prog 3 #[.slice a0 len cap, .int .i64 c, .int .i64 k] w fun e w' => e = .returned (.bool true) ∧ Below w.heap.size w w' := by
  go_enter Try.func3, Try.ntmps3
  go_wp2_with fail
  go_at_call 7
  refine (bytes7 _ _ _ _ _ ss _ h).mono ?_
  rintro e w ⟨b, rfl, rfl, hsm⟩
  cases b
  · go_wp2_with fail
    go_ret
    exact ⟨rfl, Below.refl _ _⟩
  · replace hsm := hsm rfl
    go_wp2_with fail
    go_at_call 8
    refine (add8 _ _ _ _ ss _ h hsm (by decide)).mono ?_
    rintro e w ⟨t, rfl, rfl, ht0, ht1⟩
    by_cases ht : t ≤ 1048576
    · by_cases hk : 0 ≤ k
      · by_cases hk1 : k ≤ 65536
        · have hl := hsm.1
          clear hsm
          go_wp2_with fail
          go_at_call 9
          refine (copy9 _ _ _ ss _ h hl).mono ?_
          rintro e w1 ⟨a1, rfl, hs1, hb1, _⟩
          go_wp2_with fail
          go_at_call 9
          refine (copy9 _ _ _ ss _ hs1 hl).mono ?_
          rintro e w2 ⟨a2, rfl, hs2, hb2, _⟩
          go_wp2_with fail
          go_at_call 10
          refine (new10 _ _ _ _ _).mono ?_
          rintro e w3 ⟨B, rfl, hB1, hB2, hseq, hb3⟩
          have g1 := hs1.below hb2
          have ap1 := g1.apart hB1
          have ap2 := hs2.apart hB1
          have n1 := g1.below hb3
          have n2 := hs2.below hb3
          have BB : Below w.heap.size w w3 := (hb1.trans (hb2.mono hb1.size)).trans (hb3.mono (Nat.le_trans hb1.size hb2.size))
          have hwB : w.heap.size ≤ B := Nat.le_trans (Nat.le_trans hb1.size hb2.size) hB1
          clear hs1 hs2 hb1 hb2 hb3 g1 h hB1 ht ht0 ht1
          rw [← nx_zero c] at hseq
          go_wp2_with fail
          go_loopw [8] (fun i wr => ∃ j : Nat, (j : Int) ≤ k ∧ i = .int .i64 j ∧ Seq wr B a2 len len c (nx c j) ∧ IsStrs wr a1 len ss ∧ IsStrs wr a2 len ss ∧ Below w.heap.size w wr) (fun i _ => k.toNat - (intOf i).toNat)
          case atStart => exact ⟨0, by omega, rfl, hseq, n1, n2, BB⟩
          case round =>
            obtain ⟨j, hj, rfl, hq, m1, m2, bel⟩ := hrel
            clear hseq n1 n2 BB
            by_cases hlt : (j : Int) < k
            · go_wp2_with fail
              go_at_call 11
              refine (take11 ss B a2 len len c j _ hq m2 (by omega) hl ap2).mono ?_
              rintro e w4 ⟨rfl, hq4, hsz, hcl, hfr, hbl⟩
              have m1' := m1.took hsz ap1 hcl
              have m2' := m2.took hsz ap2 hcl
              have bel' := bel.trans (hbl.mono hwB)
              clear m1 m2 bel hq hsz hcl hfr hbl
              go_wp2_with fail
              go_at_call 12
              refine (want12 ss a1 len len c j _ m1' (by omega) hl).mono ?_
              rintro e w5 ⟨rfl, rfl⟩
              go_wp2_with fail
              go_roundw
              case rel => exact ⟨j + 1, by omega, by go_num, hq4, m1', m2', bel'⟩
              case measure => simp [intOf]; omega
            · go_wp2_with fail
              go_ret
              exact ⟨rfl, bel⟩
        · go_wp2_with fail
          go_ret
          exact ⟨rfl, Below.refl _ _⟩
      · go_wp2_with fail
        go_ret
        exact ⟨rfl, Below.refl _ _⟩
    · go_wp2_with fail
      go_ret
      exact ⟨rfl, Below.refl _ _⟩
end Go.Proofs.Qxb6608578a
