/-
  'FnTakeGrantsHangOnCountAlone', WALKED.
-/
import Derived.Test.Qxb6608578aGates2
import Derived.Test.Qxb6608578aCopy
import Derived.Test.Qxb6608578aSeq
namespace Go.Proofs.Qxb6608578a
open Go.ChangeShapes Go.WideShapes Go.ChangeAt Go.RowKit

set_option maxHeartbeats 1000000 in
theorem walk5 (a0 : Option Addr) (len cap : Nat) (ss : List ByteArray) (a0' : Option Addr) (len' cap' : Nat) (ss' : List ByteArray) (c k : Int) (w : World) (h : IsStrs w a0 len ss) (h' : IsStrs w a0' len' ss') :
    Calls Try.prog 5 #[.slice a0 len cap, .slice a0' len' cap', .int .i64 c, .int .i64 k] w fun e w' => e = .returned (.bool true) ∧ Below w.heap.size w w' := by
  go_enter Try.func5, Try.ntmps5
  go_wp2_with fail
  go_at_call 14
  refine (bytes14 _ _ _ _ _ _ _ _ ss ss' _ h h').mono ?_
  rintro e w ⟨b, rfl, rfl, hsm0⟩
  cases b
  · go_wp2_with fail
    go_ret
    exact ⟨rfl, Below.refl _ _⟩
  · obtain ⟨hsm, hsm', hll⟩ := hsm0 rfl
    clear hsm0
    go_wp2_with fail
    go_at_call 8
    refine (add8 _ _ _ _ ss _ h hsm (by decide)).mono ?_
    rintro e w ⟨t0, rfl, rfl, ht00, ht10⟩
    go_wp2_with fail
    go_at_call 8
    refine (add8 _ _ _ _ ss' _ h' hsm' ht00).mono ?_
    rintro e w ⟨t, rfl, rfl, ht0, ht1⟩
    by_cases ht : t ≤ 1048576
    · by_cases hk : 0 ≤ k
      · by_cases hk1 : k ≤ 65536
        · have hl := hsm.1
          have hl' := hsm'.1
          clear hsm hsm' hll ht00 ht10
          go_wp2_with fail
          go_at_call 9
          refine (copy9 _ _ _ ss _ h hl).mono ?_
          rintro e w1 ⟨a1, rfl, hs1, hb1, _⟩
          have h1' := h'.below hb1
          go_wp2_with fail
          go_at_call 9
          refine (copy9 _ _ _ ss' _ h1' hl').mono ?_
          rintro e w2 ⟨a2, rfl, hs2, hb2, _⟩
          have hs1b := hs1.below hb2
          go_wp2_with fail
          go_at_call 9
          refine (copy9 _ _ _ ss _ hs1b hl).mono ?_
          rintro e w3 ⟨a3, rfl, hs3, hb3, _⟩
          go_wp2_with fail
          go_at_call 10
          refine (new10 _ _ _ _ _).mono ?_
          rintro e w4 ⟨B, rfl, hB1, hB2, hseq, hb4⟩
          have hs2b := (hs2.below hb3).below hb4
          go_wp2_with fail
          go_at_call 9
          refine (copy9 _ _ _ ss' _ hs2b hl').mono ?_
          rintro e w5 ⟨a5, rfl, hs5, hb5, hf5⟩
          go_wp2_with fail
          go_at_call 10
          refine (new10 _ _ _ _ _).mono ?_
          rintro e w6 ⟨C, rfl, hC1, hC2, hseqt, hb6⟩
          have hBC : B ≠ C := by have := hb5.size; omega
          have p1 := hs1b.below hb3
          have p1c := (p1.below hb4).below hb5
          have p2 := hs2.below hb3
          have p2c := hs2b.below hb5
          have p3c := (hs3.below hb4).below hb5
          have n1 := p1c.below hb6
          have n2 := p2c.below hb6
          have n3 := p3c.below hb6
          have n5 := hs5.below hb6
          have a1B := p1.apart hB1
          have a1C := p1c.apart hC1
          have a2B := p2.apart hB1
          have a2C := p2c.apart hC1
          have a3B := hs3.apart hB1
          have a3C := p3c.apart hC1
          have a5C := hs5.apart hC1
          have a5B : ∀ b off, a5 = some ⟨b, off, none⟩ → 0 < len' → b ≠ B := fun b off e _ => by have := hf5 b off e; omega
          have q1 := (hseq.below hb5 hB2).below hb6 (by have := hb5.size; omega)
          have z1 := hb1.size
          have z2 := hb2.size
          have z3 := hb3.size
          have z4 := hb4.size
          have z5 := hb5.size
          have BB : Below w.heap.size w w6 := ((((hb1.trans (hb2.mono z1)).trans (hb3.mono (by omega))).trans (hb4.mono (by omega))).trans (hb5.mono (by omega))).trans (hb6.mono (by omega))
          have hwB : w.heap.size ≤ B := by omega
          have hwC : w.heap.size ≤ C := by omega
          clear hs1 hs2 hs1b hs2b hs3 hs5 hb1 hb2 hb3 hb4 hb5 hb6 h h' h1' hB1 hB2 hC1 hC2 ht ht0 ht1 z1 z2 z3 z4 z5 hseq hf5 p1 p1c p2 p2c p3c
          rw [← nx_zero c] at q1 hseqt
          go_wp2_with fail
          go_loopw [11] (fun i wr => ∃ j : Nat, (j : Int) ≤ k ∧ i = .int .i64 j ∧ Seq wr B a3 len len c (nx c j) ∧ Seq wr C a5 len' len' c (nx c j) ∧ IsStrs wr a1 len ss ∧ IsStrs wr a2 len' ss' ∧ IsStrs wr a3 len ss ∧ IsStrs wr a5 len' ss' ∧ Below w.heap.size w wr) (fun i _ => k.toNat - (intOf i).toNat)
          case atStart => exact ⟨0, by omega, rfl, q1, hseqt, n1, n2, n3, n5, BB⟩
          case round =>
            obtain ⟨j, hj, rfl, qs, qt, m1, m2, m3, m5, bel⟩ := hrel
            clear q1 hseqt n1 n2 n3 n5 BB
            by_cases hlt : (j : Int) < k
            · have T1 := take11 ss B a3 len len c j _ qs m3 (by omega) hl a3B
              go_wp2_with fail
              go_at_call 11
              refine T1.mono ?_
              clear T1
              rintro e w7 ⟨rfl, qs7, hsz, hcl, hfr, hbl⟩
              have m1' := m1.took hsz a1B hcl
              have m2' := m2.took hsz a2B hcl
              have m3' := m3.took hsz a3B hcl
              have m5' := m5.took hsz a5B hcl
              have bel' := bel.trans (hbl.mono hwB)
              have qt' := qt.keep (fun o => hcl C o hBC.symm) (fun o => hfr C o)
              clear m1 m2 m3 m5 bel qs qt hsz hcl hfr hbl
              have T2 := take11 ss' C a5 len' len' c j _ qt' m5' (by omega) hl' a5C
              go_wp2_with fail
              go_at_call 11
              refine T2.mono ?_
              clear T2
              rintro e w8 ⟨rfl, qt8, hsz, hcl, hfr, hbl⟩
              have m1 := m1'.took hsz a1C hcl
              have m2 := m2'.took hsz a2C hcl
              have m3 := m3'.took hsz a3C hcl
              have m5 := m5'.took hsz a5C hcl
              have bel := bel'.trans (hbl.mono hwC)
              have qs8 := qs7.keep (fun o => hcl B o hBC) (fun o => hfr B o)
              clear m1' m2' m3' m5' bel' qs7 qt' hsz hcl hfr hbl
              have T3 := want12 ss a1 len len c j _ m1 (by omega) hl
              go_wp2_with fail
              go_at_call 12
              refine T3.mono ?_
              clear T3
              rintro e w8 ⟨rfl, rfl⟩
              have T4 := want12 ss' a2 len' len' c j _ m2 (by omega) hl'
              go_wp2_with fail
              go_at_call 12
              refine T4.mono ?_
              clear T4
              rintro e w8 ⟨rfl, rfl⟩
              go_wp2_with fail
              go_roundw
              case rel => exact ⟨j + 1, by omega, by go_num, qs8, qt8, m1, m2, m3, m5, bel⟩
              case measure => simp [intOf]; omega
            · go_wp2_with fail
              go_ret
              exact ⟨rfl, bel⟩
        · go_wp2_with fail
          go_ret
          exact ⟨rfl, Below.refl _ _⟩
      · go_wp2_with fail
        go_ret
        exact ⟨rfl, Below.refl _ _⟩
    · go_wp2_with fail
      go_ret
      exact ⟨rfl, Below.refl _ _⟩
end Go.Proofs.Qxb6608578a
