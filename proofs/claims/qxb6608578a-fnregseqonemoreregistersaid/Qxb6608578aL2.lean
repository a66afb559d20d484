/-
  'FnRegSeqOneMoreRegister', WALKED.
-/
import Derived.Test.Qxb6608578aGates
import Derived.Test.Qxb6608578aCopy
import Derived.Test.Qxb6608578aSeq
namespace Go.Proofs.Qxb6608578a
open Go.ChangeShapes Go.WideShapes Go.ChangeAt Go.RowKit

theorem wS_lt (ss : List ByteArray) {c : Int} {j : Nat} (h : (j : Int) < c) : wS ss c j = ss.getD j ByteArray.empty := if_neg (by omega)
theorem wB_lt {c : Int} {j : Nat} (h : (j : Int) < c) : wB c j = true := if_neg (by omega)
theorem wS_at (ss : List ByteArray) (m : Nat) : wS ss m m = ByteArray.empty := if_pos (by omega)
theorem wB_at (m : Nat) : wB m m = false := if_pos (by omega)

set_option maxHeartbeats 1000000 in
theorem walk4 (a0 : Option Addr) (len cap : Nat) (ss : List ByteArray) (c : Int) (w : World) (h : IsStrs w a0 len ss) :
    Calls Try.prog 4 #[.slice a0 len cap, .int .i64 c] w fun e w' => e = .returned (.bool true) ∧ Below w.heap.size w w' := by
  go_enter Try.func4, Try.ntmps4
  go_wp2_with fail
  go_at_call 13
  refine (bytes13 _ _ _ _ ss _ h).mono ?_
  rintro e w ⟨b, rfl, rfl, hsm⟩
  cases b
  · go_wp2_with fail
    go_ret
    exact ⟨rfl, Below.refl _ _⟩
  · replace hsm := hsm rfl
    go_wp2_with fail
    go_at_call 8
    refine (add8 _ _ _ _ ss _ h hsm (by decide)).mono ?_
    rintro e w ⟨t, rfl, rfl, ht0, ht1⟩
    by_cases ht : t ≤ 1048576
    · by_cases hk : 0 ≤ c
      · by_cases hk1 : c ≤ 65536
        · obtain ⟨m, rfl⟩ : ∃ m : Nat, c = m := ⟨c.toNat, by omega⟩
          have hl := hsm.1
          clear hsm
          go_wp2_with fail
          go_at_call 9
          refine (copy9 _ _ _ ss _ h hl).mono ?_
          rintro e w1 ⟨a1, rfl, hs1, hb1, _⟩
          go_wp2_with fail
          go_at_call 9
          refine (copy9 _ _ _ ss _ hs1 hl).mono ?_
          rintro e w2 ⟨a2, rfl, hs2, hb2, _⟩
          go_wp2_with fail
          go_at_call 10
          refine (new10 _ _ _ _ _).mono ?_
          rintro e w3 ⟨B, rfl, hB1, hB2, hseq, hb3⟩
          have hs1b := (hs1.below hb2).below hb3
          go_wp2_with fail
          go_at_call 9
          refine (copy9 _ _ _ ss _ hs1b hl).mono ?_
          rintro e w4 ⟨a4, rfl, hs4, hb4, hf4⟩
          go_wp2_with fail
          go_at_call 10
          refine (new10 _ _ _ _ _).mono ?_
          rintro e w5 ⟨C, rfl, hC1, hC2, hseqt, hb5⟩
          have hBC : B ≠ C := by have := hb4.size; omega
          have hs1c := hs1b.below hb4
          have n1 := hs1c.below hb5
          have n2 := ((hs2.below hb3).below hb4).below hb5
          have n4 := hs4.below hb5
          have a1B := (hs1.below hb2).apart hB1
          have a1C := hs1c.apart hC1
          have a2B := hs2.apart hB1
          have a2C := ((hs2.below hb3).below hb4).apart hC1
          have a4C := hs4.apart hC1
          have a4B : ∀ b off, a4 = some ⟨b, off, none⟩ → 0 < len → b ≠ B := fun b off e _ => by have := hf4 b off e; omega
          have q1 := (hseq.below hb4 hB2).below hb5 (by have := hb4.size; omega)
          have z2 := hb2.size
          have z3 := hb3.size
          have z4 := hb4.size
          have z1 := hb1.size
          have BB : Below w.heap.size w w5 := (((hb1.trans (hb2.mono z1)).trans (hb3.mono (by omega))).trans (hb4.mono (by omega))).trans (hb5.mono (by omega))
          have hwB : w.heap.size ≤ B := by omega
          have hwC : w.heap.size ≤ C := by omega
          clear hs1 hs2 hs1b hs1c hs4 hb1 hb2 hb3 hb4 hb5 h hB1 hB2 hC1 hC2 ht ht0 ht1 z1 z2 z3 z4 hseq hf4
          rw [← nx_zero m] at q1
          rw [← nx_zero (m + 1)] at hseqt
          go_wp2_with fail
          go_loopw [7] (fun i wr => ∃ j : Nat, j ≤ m ∧ i = .int .i64 j ∧ Seq wr B a2 len len m (nx m j) ∧ Seq wr C a4 len len (m + 1) (nx (m + 1) j) ∧ IsStrs wr a1 len ss ∧ IsStrs wr a2 len ss ∧ IsStrs wr a4 len ss ∧ Below w.heap.size w wr) (fun i _ => m - (intOf i).toNat)
          case atStart => exact ⟨0, by omega, rfl, q1, hseqt, n1, n2, n4, BB⟩
          case round =>
            obtain ⟨j, hj, rfl, qs, qt, m1, m2, m4, bel⟩ := hrel
            clear q1 hseqt n1 n2 n4 BB
            by_cases hlt : j < m
            · have T1 := take11 ss B a2 len len m j _ qs m2 (by omega) hl a2B
              rw [wS_lt ss (by omega), wB_lt (by omega)] at T1
              go_wp2_with fail
              go_at_call 11
              refine T1.mono ?_
              clear T1
              rintro e w6 ⟨rfl, qs6, hsz, hcl, hfr, hbl⟩
              have m1' := m1.took hsz a1B hcl
              have m2' := m2.took hsz a2B hcl
              have m4' := m4.took hsz a4B hcl
              have bel' := bel.trans (hbl.mono hwB)
              have qt' := qt.keep (fun o => hcl C o hBC.symm) (fun o => hfr C o)
              clear m1 m2 m4 bel qs qt hsz hcl hfr hbl
              have T2 := take11 ss C a4 len len (m + 1) j _ qt' m4' (by omega) hl a4C
              rw [wS_lt ss (by omega), wB_lt (by omega)] at T2
              go_wp2_with fail
              go_at_call 11
              refine T2.mono ?_
              clear T2
              rintro e w7 ⟨rfl, qt7, hsz, hcl, hfr, hbl⟩
              have m1 := m1'.took hsz a1C hcl
              have m2 := m2'.took hsz a2C hcl
              have m4 := m4'.took hsz a4C hcl
              have bel := bel'.trans (hbl.mono hwC)
              have qs7 := qs6.keep (fun o => hcl B o hBC) (fun o => hfr B o)
              clear m1' m2' m4' bel' qs6 qt' hsz hcl hfr hbl
              have T3 := want12 ss a1 len len m j _ m1 (by omega) hl
              rw [wS_lt ss (by omega), wB_lt (by omega)] at T3
              go_wp2_with fail
              go_at_call 12
              refine T3.mono ?_
              clear T3
              rintro e w7 ⟨rfl, rfl⟩
              go_wp2_with fail
              go_roundw
              case rel => exact ⟨j + 1, by omega, by go_num, qs7, qt7, m1, m2, m4, bel⟩
              case measure => simp [intOf]; omega
            · obtain rfl : j = m := by omega
              have T1 := take11 ss B a2 len len j j _ qs m2 (by omega) hl a2B
              rw [wS_at, wB_at] at T1
              go_wp2_with fail
              go_at_call 11
              refine T1.mono ?_
              clear T1
              rintro e w6 ⟨rfl, qs6, hsz, hcl, hfr, hbl⟩
              have m1' := m1.took hsz a1B hcl
              have m4' := m4.took hsz a4B hcl
              have bel' := bel.trans (hbl.mono hwB)
              have qt' := qt.keep (fun o => hcl C o hBC.symm) (fun o => hfr C o)
              clear m1 m2 m4 bel qs qt hsz hcl hfr hbl qs6
              have T2 := take11 ss C a4 len len (j + 1) j _ qt' m4' (by omega) hl a4C
              rw [wS_lt ss (by omega), wB_lt (by omega)] at T2
              go_wp2_with fail
              go_at_call 11
              refine T2.mono ?_
              clear T2
              rintro e w7 ⟨rfl, qt7, hsz, hcl, hfr, hbl⟩
              have m1 := m1'.took hsz a1C hcl
              have bel := bel'.trans (hbl.mono hwC)
              clear m1' m4' bel' qt' hsz hcl hfr hbl qt7
              have T3 := want12 ss a1 len len (j + 1) j _ m1 (by omega) hl
              rw [wS_lt ss (by omega), wB_lt (by omega)] at T3
              go_wp2_with fail
              go_at_call 12
              refine T3.mono ?_
              clear T3
              rintro e w7 ⟨rfl, rfl⟩
              go_wp2_with fail
              go_ret
              exact ⟨by simp, bel⟩
        · go_wp2_with fail
          go_ret
          exact ⟨rfl, Below.refl _ _⟩
      · go_wp2_with fail
        go_ret
        exact ⟨rfl, Below.refl _ _⟩
    · go_wp2_with fail
      go_ret
      exact ⟨rfl, Below.refl _ _⟩
end Go.Proofs.Qxb6608578a
