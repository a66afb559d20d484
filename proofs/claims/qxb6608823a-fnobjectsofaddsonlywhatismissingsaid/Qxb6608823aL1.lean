/-
  'FnObjectsOfAddsOnlyWhatIsMissing', WALKED.
-/
import Derived.Test.Qxb6608823aGates
import Derived.Test.Qxb6608823aOf
import Derived.WalkSmall
namespace Go.Proofs.Qxb6608823a
open Go.ChangeShapes Go.WideShapes Go.ChangeAt Go.RowKit
attribute [local go_sem] neq30_same

set_option maxHeartbeats 1000000 in
theorem walk3 (a : Option Addr) (len cap : Nat) (ss : List ByteArray) (a' : Option Addr) (len' cap' : Nat) (bs : List Bool) (pkg : ByteArray) (w : World) (h : IsStrs w a len ss) (h' : IsBools w a' len' bs) (hpk : pkg.size ≤ maxLen) :
    Calls Try.prog 3 #[.slice a len cap, .slice a' len' cap', .string pkg] w fun e w' => e = .returned (.bool true) ∧ Below w.heap.size w w' := by
  go_enter Try.func3, Try.ntmps3
  go_wp2_with fail
  go_at_call 7
  refine (bytes7 _ _ _ _ _ _ _ ss _ h h'.2.1 hpk).mono ?_
  rintro e w ⟨b, rfl, rfl, hfit⟩
  cases b
  · go_wp2_with fail
    go_ret
    exact ⟨rfl, Below.refl _ _⟩
  · have hl := (hfit rfl).le
    clear hfit
    obtain ⟨t1a, t1b⟩ := addLen_bd (t := 0) (n := pkg.size) (by decide) (by omega)
    go_wp2_with fail
    go_at_call 8
    refine (add8 0 pkg.size _ (by decide) (by decide) (by omega)).mono ?_
    rintro e w ⟨rfl, rfl⟩
    obtain ⟨t1, ht1⟩ : ∃ t1, t1 = addLen 0 pkg.size := ⟨_, rfl⟩
    rw [← ht1] at t1a t1b ⊢
    clear ht1
    go_wp2_with fail
    go_at_call 9
    refine (add9 _ _ _ _ ss _ h t1a t1b).mono ?_
    rintro e w1 ⟨t2, q, rfl, hw1, t2a, t2b⟩
    have hb1 : Below w.heap.size w w1 := by rw [hw1]; exact below_drewN (Below.refl _ _) q
    have hz1 : w1.heap.size = w.heap.size := by rw [hw1]; rfl
    clear hw1 t1a t1b
    have g := h.below hb1
    have g' := h'.below hb1
    obtain ⟨t3a, t3b⟩ := addLen_bd (t := t2) (n := len') t2a (by omega)
    go_wp2_with fail
    go_at_call 8
    refine (add8 t2 len' _ t2a t2b (by omega)).mono ?_
    rintro e w1 ⟨rfl, rfl⟩
    obtain ⟨t3, ht3⟩ : ∃ t3, t3 = addLen t2 len' := ⟨_, rfl⟩
    rw [← ht3] at t3a t3b ⊢
    clear ht3 h h' t2a t2b
    by_cases ht : t3 ≤ 1048576
    · go_wp2_with fail
      go_at_call 10
      refine (build10 _ _ _ _ _ _ ss bs _ g g' hl).mono ?_
      rintro e w2 ⟨D, rfl, hm, hb, hgood, hall, hbel⟩
      have gs := g.below hbel
      have hbw : Below w.heap.size w w2 := hb1.trans (hbel.mono (by omega))
      have hszz := gs.sz
      obtain ⟨i1, i2, i3, i4⟩ := gs
      clear g' hb1 i2 i3 ht t3a t3b
      have hN : pN D ≤ len := hm.size_le
      obtain ⟨M, hM⟩ : ∃ M, M = w1.heap.size := ⟨_, rfl⟩
      rw [← hM] at hm hb hbel ⊢
      have hwM : w.heap.size ≤ M := by omega
      have HM : Hid (M = w1.heap.size) := hM
      clear hM hz1
      cases hpa : pA D pkg with
      | some p =>
        clear g hbel HM
        have hph := pH_of_pA hpa
        have r1 := hb.look_ok hpk
        have r2 := hm.look_ok hpk
        rw [hpa, hph] at r1 r2
        have l1 := hb.len
        have l2 := hm.len
        have C := of11_have M len D pkg w2 p hm hpk hpa
        go_wp2_with fail
        go_at_call 11
        refine C.mono ?_
        clear C
        rintro e w2 ⟨rfl, rfl⟩
        go_wp2_with fail
        go_loop [16] (fun i => ∃ j : Nat, j ≤ len ∧ i = .int .i64 j) (fun i => len - (intOf i).toNat)
        case atStart => exact ⟨0, Nat.zero_le _, rfl⟩
        case round =>
          obtain ⟨j, hj, rfl⟩ := hrel
          clear r1 r2 l1 l2
          by_cases hlt : j < len
          · obtain ⟨bb, off, rfl, hbl, hcell⟩ := i4 (by omega)
            have hc := hcell j hlt
            have hall1 := hall j hlt
            have hs1 := hszz j
            obtain ⟨s, hs⟩ : ∃ s, s = ss.getD j ByteArray.empty := ⟨_, rfl⟩
            rw [← hs] at hc hall1 hs1
            have r3 := hm.look_ok hs1
            have r4 := hb.look hs1
            rw [hall1] at r3
            clear hs hcell i4 hall hszz hm hb hgood hpa hph
            by_cases hsp : s = pkg
            · have e1 := str_eq hsp
              clear r3 r4
              go_wp2
              go_round
              case rel => exact ⟨j + 1, by omega, by go_num⟩
              case measure => simp [intOf]; omega
            · have e1 := str_ne hsp
              obtain ⟨v, hv⟩ : ∃ v, v = pA D s := ⟨_, rfl⟩
              rw [← hv] at r3 r4
              clear hv hsp
              go_wp2
              go_round
              case rel => exact ⟨j + 1, by omega, by go_num⟩
              case measure => simp [intOf]; omega
          · go_wp2
            go_ret
            exact ⟨rfl, hbw⟩
      | none =>
        have r1 := hb.look_ok hpk
        rw [hpa] at r1
        have C := of11_new M len D pkg w2 hm hgood hpk (by unfold maxLen; omega) hpa
        have hsize := pN_put hm pkg (some ⟨w2.heap.size, 0, none⟩)
        have q1 := pA_put_same hm pkg (some ⟨w2.heap.size, 0, none⟩)
        have q2 := pH_put_same hm pkg (some ⟨w2.heap.size, 0, none⟩)
        have hlt2 := hm.lt
        obtain ⟨X, hX⟩ : ∃ X, X = w2.heap.size := ⟨_, rfl⟩
        obtain ⟨D2, hD2⟩ : ∃ D2, D2 = pPut D pkg (some ⟨X, 0, none⟩) := ⟨_, rfl⟩
        rw [← hX, ← hD2] at hsize q1 q2
        have HX : Hid (X = w2.heap.size) := hX
        have HD : Hid (D2 = pPut D pkg (some ⟨X, 0, none⟩)) := hD2
        unfold NewP at C
        rw [← hX, ← hD2] at C
        clear hX hD2
        have HG : Hid (IsStrs w1 a len ss) := g
        clear i4 hszz g
        cases hh : pH D pkg
        all_goals
          rw [hh] at r1 hsize
          simp only [if_true, if_false, Bool.false_eq_true] at hsize
          go_wp2_with fail
          go_at_call 11
          refine C.mono ?_
          rintro e w3 ⟨rfl, hm3, gg, hg3⟩
          have hb3 := hb.kept gg (by simp)
          have bel3 : Below M w2 w3 := (Below.refl _ _).grown gg (Nat.le_of_lt hlt2) (fun k hk => by cases hk; exact Nat.le_refl _)
          have gs := HG.out.below (HM.out ▸ hbel.trans bel3)
          have hbw3 := hbw.trans (bel3.mono hwM)
          have hszz := gs.sz
          obtain ⟨_, _, _, i4⟩ := gs
          have r2 := hm3.look_ok hpk
          rw [q1, q2] at r2
          have l1 := hb3.len
          have l2 := hm3.len
          rw [hsize] at l2
          have OX : Obj w3 ⟨X, 0, none⟩ := hg3.1 pkg _ q1
          clear C hbel bel3 hm hb gg hbw hlt2
          go_wp2_with fail
          go_loop [16] (fun i => ∃ j : Nat, j ≤ len ∧ i = .int .i64 j) (fun i => len - (intOf i).toNat)
          case atStart => exact ⟨0, Nat.zero_le _, rfl⟩
          case round =>
            obtain ⟨j, hj, rfl⟩ := hrel
            clear r1 r2 l1 l2 hsize
            by_cases hlt : j < len
            · obtain ⟨bb, off, rfl, hbl, hcell⟩ := i4 (by omega)
              have hc := hcell j hlt
              have hall1 := hall j hlt
              have hs1 := hszz j
              obtain ⟨s, hs⟩ : ∃ s, s = ss.getD j ByteArray.empty := ⟨_, rfl⟩
              rw [← hs] at hc hall1 hs1
              have r3 := hm3.look_ok hs1
              have r4 := hb3.look hs1
              by_cases hsp : s = pkg
              · have e1 := str_eq hsp
                clear r3 r4 hs hcell i4 hall hszz hm3 hb3 hgood hg3 hpa hh q1 q2 OX hall1 hsp
                go_wp2
                go_round
                case rel => exact ⟨j + 1, by omega, by go_num⟩
                case measure => simp [intOf]; omega
              · have e1 := str_ne hsp
                have k1 : pA D2 s = pA D s := by rw [HD.out]; exact pA_put_other hsp _
                have k2 : pH D2 s = true := by rw [HD.out, pH_put_other hsp]; exact hall1
                rw [k1, k2] at r3
                have heq : (binOp .eql 30 (.pointer (pA D s)) (.pointer (some ⟨X, 0, none⟩))).run Try.prog w3 = .ok (.bool false) w3 := by
                  cases hv : pA D s with
                  | none => exact eql30_none w3 _
                  | some p =>
                    have op : Obj w3 p := hg3.1 s p (k1.trans hv)
                    exact eql30_other w3 (fun e => hsp (hg3.2 s pkg p (k1.trans hv) (q1.trans (by rw [e])))) op OX
                obtain ⟨v, hv⟩ : ∃ v, v = pA D s := ⟨_, rfl⟩
                rw [← hv] at r3 r4 heq
                clear hv hsp k1 k2 hs hcell i4 hall hszz hm3 hb3 hgood hg3 hpa hh q1 q2 OX hall1
                go_wp2
                go_round
                case rel => exact ⟨j + 1, by omega, by go_num⟩
                case measure => simp [intOf]; omega
            · go_wp2
              go_ret
              exact ⟨rfl, hbw3⟩
    · go_wp2_with fail
      go_ret
      exact ⟨rfl, by assumption⟩
end Go.Proofs.Qxb6608823a
