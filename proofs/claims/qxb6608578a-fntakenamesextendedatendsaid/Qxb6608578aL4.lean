/-
  'FnTakeNamesExtendedAtEnd', WALKED.
-/
import Derived.Test.Qxb6608578aGates2
import Derived.Test.Qxb6608578aCopy
import Derived.Test.Qxb6608578aSeq
namespace Go.Proofs.Qxb6608578a
open Go.ChangeShapes Go.WideShapes Go.ChangeAt Go.RowKit

/-! ### The joined list -/
theorem joined_left (ss ss' : List ByteArray) {k : Nat} (h : k < ss.length) : (ss ++ ss').getD k ByteArray.empty = ss.getD k ByteArray.empty := by
  simp [List.getD, List.getElem?_append_left h]
theorem joined_right (ss ss' : List ByteArray) (k : Nat) : (ss ++ ss').getD (ss.length + k) ByteArray.empty = ss'.getD k ByteArray.empty := by
  simp [List.getD, List.getElem?_append_right]
theorem wS_joined (ss ss' : List ByteArray) (c : Int) {j : Nat} (h : j < ss.length) : wS (ss ++ ss') c j = wS ss c j := by
  unfold wS
  rw [joined_left ss ss' h]

set_option maxRecDepth 4000 in
set_option maxHeartbeats 1000000 in
theorem walk6 (a0 : Option Addr) (len cap : Nat) (ss : List ByteArray) (a0' : Option Addr) (len' cap' : Nat) (ss' : List ByteArray) (c k : Int) (w : World) (h : IsStrs w a0 len ss) (h' : IsStrs w a0' len' ss') :
    Calls Try.prog 6 #[.slice a0 len cap, .slice a0' len' cap', .int .i64 c, .int .i64 k] w fun e w' => e = .returned (.bool true) ∧ Below w.heap.size w w' := by
  go_enter Try.func6, Try.ntmps6
  go_wp2_with fail
  go_at_call 15
  refine (bytes15 _ _ _ _ _ _ _ _ ss ss' _ h h').mono ?_
  rintro e w ⟨b, rfl, rfl, hsm0⟩
  cases b
  · go_wp2_with fail
    go_ret
    exact ⟨rfl, Below.refl _ _⟩
  · obtain ⟨hsm, hsm', hll⟩ := hsm0 rfl
    clear hsm0
    go_wp2_with fail
    go_at_call 8
    refine (add8 _ _ _ _ ss _ h hsm (by decide)).mono ?_
    rintro e w ⟨t0, rfl, rfl, ht00, ht10⟩
    go_wp2_with fail
    go_at_call 8
    refine (add8 _ _ _ _ ss' _ h' hsm' ht00).mono ?_
    rintro e w ⟨t, rfl, rfl, ht0, ht1⟩
    by_cases ht : t ≤ 1048576
    · by_cases hk : 0 ≤ k
      · by_cases hk1 : k ≤ 65536
        · have hl := hsm.1
          have hl' := hsm'.1
          clear hsm hsm' ht00 ht10
          go_wp2_with fail
          go_at_call 9
          refine (copy9 _ _ _ ss _ h hl).mono ?_
          rintro e w1 ⟨a1, rfl, hs1, hb1, _⟩
          have h1' := h'.below hb1
          go_wp2_with fail
          go_at_call 9
          refine (copy9 _ _ _ ss' _ h1' hl').mono ?_
          rintro e w2 ⟨a2, rfl, hs2, hb2, _⟩
          have hs1b := hs1.below hb2
          have z1 := hb1.size
          have Bw2 : Below w.heap.size w w2 := hb1.trans (hb2.mono z1)
          have hw2 : w.heap.size ≤ w2.heap.size := Bw2.size
          obtain ⟨i0, hi, hz0, hz1, hz2⟩ := info_parts info9
          obtain ⟨g1, g2, g3, g4⟩ := hs1b
          obtain ⟨g1', g2', g3', g4'⟩ := hs2
          clear hs1 h h' h1' hb1 hb2 ht ht0 ht1 z1
          go_wp2_with (at_make; refine wpList_make_full _ rfl _ _ 22 rfl w2.heap.size 9 i0 (.string ByteArray.empty) 1 Try.underlying22 hi hz0 hz1 .i64 .i64 _ _ (len + len') rfl rfl (by simp) (by simp) (by rw [hz2]; omega) (by unfold maxLen; omega) (Nat.le_refl _) ?_; intro w3 hown hgrow)
          have hlen1 : (madeCells (Value.string ByteArray.empty).cells ((len + len') * 1)).toList.length = len + len' := by simp [size_madeCells]
          obtain ⟨xs0, hxs0⟩ : ∃ xs0, xs0 = (madeCells (Value.string ByteArray.empty).cells ((len + len') * 1)).toList := ⟨_, rfl⟩
          rw [← hxs0] at hown hlen1
          clear hxs0
          have hB0 : Below w2.heap.size w2 w3 := (Below.refl _ _).grown hgrow (Nat.le_refl _) (fun k hk => by cases hk)
          clear hgrow
          go_loopw [10] (fun i wr => ∃ (j : Nat) (xs : List Value), j ≤ len ∧ i = .int .i64 j ∧ xs.length = len + len' ∧ wr.ownsRow w2.heap.size 9 1 (.slice (some ⟨w2.heap.size, 0, none⟩) (len + len') (len + len')) (len + len') xs ∧ (∀ l, l < j → xs[l]? = some (.string ((ss ++ ss').getD l ByteArray.empty))) ∧ Below w2.heap.size w2 wr) (fun i _ => len - (intOf i).toNat)
          case atStart => exact ⟨0, xs0, Nat.zero_le _, rfl, hlen1, hown, fun j hj => by omega, hB0⟩
          case round =>
            obtain ⟨j, xs, hj, rfl, hxl, hownr, hpre, hbel⟩ := hrel
            clear hown hB0 hlen1
            by_cases hlt : j < len
            · obtain ⟨b, off, rfl, hb, hcell⟩ := g4 (by omega)
              have hc : wr.cell? ⟨b, off + j, none⟩ = some (.string (ss.getD j ByteArray.empty)) := (hbel.cell (p := ⟨b, off + j, none⟩) hb).trans (hcell j hlt)
              have hd : wr.cell? ⟨w2.heap.size, j, none⟩ = some xs[j] := by rw [hownr.cellAt j (by omega)]; simp
              have hf := hownr.frozenAt j
              rw [← joined_left ss ss' (by omega)] at hc
              obtain ⟨s, hs⟩ : ∃ s, s = (ss ++ ss').getD j ByteArray.empty := ⟨_, rfl⟩
              rw [← hs] at hc
              have HR := hownr.stored j (.string s)
              have HB : Below w2.heap.size w2 (wr.setCell ⟨w2.heap.size, j, none⟩ (.string s)) := hbel.setCell (Nat.le_refl _) _
              have HP := set_step (by omega) hpre hs
              clear hs hcell g4 g4' hpre hownr hbel
              go_wp2
              go_roundw
              case rel => exact ⟨j + 1, xs.set j (.string s), by omega, by go_num, by simpa using hxl, HR.1, HP, HB⟩
              case measure => simp [intOf]; omega
            · obtain rfl : j = len := by omega
              go_wp2
              go_loopw [11] (fun i wr => ∃ (l : Nat) (xs : List Value), l ≤ len' ∧ i = .int .i64 l ∧ xs.length = j + len' ∧ wr.ownsRow w2.heap.size 9 1 (.slice (some ⟨w2.heap.size, 0, none⟩) (j + len') (j + len')) (j + len') xs ∧ (∀ m, m < j + l → xs[m]? = some (.string ((ss ++ ss').getD m ByteArray.empty))) ∧ Below w2.heap.size w2 wr) (fun i _ => len' - (intOf i).toNat)
              case atStart => exact ⟨0, xs, Nat.zero_le _, rfl, hxl, hownr, hpre, hbel⟩
              case round =>
                obtain ⟨l, xs, hl2, rfl, hxl, hownr, hpre, hbel⟩ := hrel
                by_cases hlt' : l < len'
                · obtain ⟨b, off, rfl, hb, hcell⟩ := g4' (by omega)
                  have hc : wr.cell? ⟨b, off + l, none⟩ = some (.string (ss'.getD l ByteArray.empty)) := (hbel.cell (p := ⟨b, off + l, none⟩) hb).trans (hcell l hlt')
                  have hd : wr.cell? ⟨w2.heap.size, j + l, none⟩ = some xs[j + l] := by rw [hownr.cellAt (j + l) (by omega)]; simp
                  have hf := hownr.frozenAt (j + l)
                  rw [← joined_right ss ss' l, g1] at hc
                  obtain ⟨s, hs⟩ : ∃ s, s = (ss ++ ss').getD (j + l) ByteArray.empty := ⟨_, rfl⟩
                  rw [← hs] at hc
                  have HR := hownr.stored (j + l) (.string s)
                  have HB : Below w2.heap.size w2 (wr.setCell ⟨w2.heap.size, j + l, none⟩ (.string s)) := hbel.setCell (Nat.le_refl _) _
                  have HP := set_step (by omega) hpre hs
                  clear hs hcell g4 g4' hpre hownr hbel
                  go_wp2
                  go_roundw
                  case rel => exact ⟨l + 1, xs.set (j + l) (.string s), by omega, by go_num, by simpa using hxl, HR.1, HP, HB⟩
                  case measure => simp [intOf]; omega
                · obtain rfl : l = len' := by omega
                  have hsJ : IsStrs wr (some ⟨w2.heap.size, 0, none⟩) (j + l) (ss ++ ss') := isStrs_of_owns hownr hpre (by simp; omega) (by unfold maxLen; omega) (by
                    intro s hs
                    rcases List.mem_append.1 hs with e | e
                    · exact g3 s e
                    · exact g3' s e)
                  have hs1 : IsStrs w2 a1 j ss := ⟨g1, g2, g3, g4⟩
                  have hs1 := hs1.below hbel
                  have Bw := Bw2.trans (hbel.mono hw2)
                  clear hownr hpre hbel g1 g2 g3 g4 g1' g2' g3' g4' hxl Bw2 hw2
                  go_wp2_with fail
                  go_at_call 9
                  refine (copy9 _ _ _ ss _ hs1 hl).mono ?_
                  rintro e w3 ⟨a3, rfl, hs3, hb3, _⟩
                  go_wp2_with fail
                  go_at_call 10
                  refine (new10 _ _ _ _ _).mono ?_
                  rintro e w4 ⟨B, rfl, hB1, hB2, hseq, hb4⟩
                  have hsJb := (hsJ.below hb3).below hb4
                  go_wp2_with fail
                  go_at_call 9
                  refine (copy9 _ _ _ (ss ++ ss') _ hsJb hll).mono ?_
                  rintro e w5 ⟨a5, rfl, hs5, hb5, hf5⟩
                  go_wp2_with fail
                  go_at_call 10
                  refine (new10 _ _ _ _ _).mono ?_
                  rintro e w6 ⟨C, rfl, hC1, hC2, hseqt, hb6⟩
                  have hBC : B ≠ C := by have := hb5.size; omega
                  have p1 := hs1.below hb3
                  have p1c := (p1.below hb4).below hb5
                  have pJ := hsJ.below hb3
                  have pJc := hsJb.below hb5
                  have p3c := (hs3.below hb4).below hb5
                  have n1 := p1c.below hb6
                  have nJ := pJc.below hb6
                  have n3 := p3c.below hb6
                  have n5 := hs5.below hb6
                  have a1B := p1.apart hB1
                  have a1C := p1c.apart hC1
                  have aJB := pJ.apart hB1
                  have aJC := pJc.apart hC1
                  have a3B := hs3.apart hB1
                  have a3C := p3c.apart hC1
                  have a5C := hs5.apart hC1
                  have a5B : ∀ b off, a5 = some ⟨b, off, none⟩ → 0 < j + l → b ≠ B := fun b off e _ => by have := hf5 b off e; omega
                  have q1 := (hseq.below hb5 hB2).below hb6 (by have := hb5.size; omega)
                  have z2 := Bw.size
                  have z3 := hb3.size
                  have z4 := hb4.size
                  have z5 := hb5.size
                  have BB : Below w.heap.size w w6 := (((Bw.trans (hb3.mono z2)).trans (hb4.mono (by omega))).trans (hb5.mono (by omega))).trans (hb6.mono (by omega))
                  have hwB : w.heap.size ≤ B := by omega
                  have hwC : w.heap.size ≤ C := by omega
                  have hjs := hs1.1
                  clear hs1 hsJ hsJb hs3 hs5 hb3 hb4 hb5 hb6 hB1 hB2 hC1 hC2 z2 z3 z4 z5 hseq hf5 p1 p1c pJ pJc p3c Bw
                  have HJ : Hid (ss.length = j) := hjs
                  clear hjs
                  rw [← nx_zero c] at q1 hseqt
                  go_wp2_with fail
                  go_loopw [14] (fun i wr => ∃ r : Nat, (r : Int) ≤ k ∧ i = .int .i64 r ∧ Seq wr B a3 j j c (nx c r) ∧ Seq wr C a5 (j + l) (j + l) c (nx c r) ∧ IsStrs wr a1 j ss ∧ IsStrs wr (some ⟨w2.heap.size, 0, none⟩) (j + l) (ss ++ ss') ∧ IsStrs wr a3 j ss ∧ IsStrs wr a5 (j + l) (ss ++ ss') ∧ Below w.heap.size w wr) (fun i _ => k.toNat - (intOf i).toNat)
                  case atStart => exact ⟨0, by omega, rfl, q1, hseqt, n1, nJ, n3, n5, BB⟩
                  case round =>
                    obtain ⟨r, hr, rfl, qs, qt, m1, m2, m3, m5, bel⟩ := hrel
                    clear q1 hseqt n1 nJ n3 n5 BB
                    by_cases hltk : (r : Int) < k
                    · have T1 := take11 ss B a3 j j c r _ qs m3 (by omega) hl a3B
                      go_wp2_with fail
                      go_at_call 11
                      refine T1.mono ?_
                      clear T1
                      rintro e w7 ⟨rfl, qs7, hsz, hcl, hfr, hbl⟩
                      have m1' := m1.took hsz a1B hcl
                      have m2' := m2.took hsz aJB hcl
                      have m3' := m3.took hsz a3B hcl
                      have m5' := m5.took hsz a5B hcl
                      have bel' := bel.trans (hbl.mono hwB)
                      have qt' := qt.keep (fun o => hcl C o hBC.symm) (fun o => hfr C o)
                      clear m1 m2 m3 m5 bel qs qt hsz hcl hfr hbl
                      by_cases hrj : r < j
                      all_goals
                        have T2 := take11 (ss ++ ss') C a5 (j + l) (j + l) c r _ qt' m5' (by omega) hll a5C
                        try rw [wS_joined ss ss' c (by rw [HJ.out]; exact hrj)] at T2
                        go_wp2_with fail
                        go_at_call 11
                        refine T2.mono ?_
                        clear T2
                        rintro e w8 ⟨rfl, qt8, hsz, hcl, hfr, hbl⟩
                        have m1 := m1'.took hsz a1C hcl
                        have m2 := m2'.took hsz aJC hcl
                        have m3 := m3'.took hsz a3C hcl
                        have m5 := m5'.took hsz a5C hcl
                        have bel := bel'.trans (hbl.mono hwC)
                        have qs8 := qs7.keep (fun o => hcl B o hBC) (fun o => hfr B o)
                        clear m1' m2' m3' m5' bel' qs7 qt' hsz hcl hfr hbl
                        have T3 := want12 ss a1 j j c r _ m1 (by omega) hl
                        go_wp2_with fail
                        go_at_call 12
                        refine T3.mono ?_
                        clear T3
                        rintro e w8 ⟨rfl, rfl⟩
                        have T4 := want12 (ss ++ ss') (some ⟨w2.heap.size, 0, none⟩) (j + l) (j + l) c r _ m2 (by omega) hll
                        try rw [wS_joined ss ss' c (by rw [HJ.out]; exact hrj)] at T4
                        go_wp2_with fail
                        go_at_call 12
                        refine T4.mono ?_
                        clear T4
                        rintro e w8 ⟨rfl, rfl⟩
                        go_wp2_with fail
                        go_roundw
                        case rel => exact ⟨r + 1, by omega, by go_num, qs8, qt8, m1, m2, m3, m5, bel⟩
                        case measure => simp [intOf]; omega
                    · go_wp2_with fail
                      go_ret
                      exact ⟨rfl, bel⟩
        · go_wp2_with fail
          go_ret
          exact ⟨rfl, Below.refl _ _⟩
      · go_wp2_with fail
        go_ret
        exact ⟨rfl, Below.refl _ _⟩
    · go_wp2_with fail
      go_ret
      exact ⟨rfl, Below.refl _ _⟩
end Go.Proofs.Qxb6608578a
