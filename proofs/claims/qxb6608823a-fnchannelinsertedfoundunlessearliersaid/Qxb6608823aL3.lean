/-
  'FnChannelCutAgreesWithParts', WALKED.
-/
import Derived.Test.Qxb6608823aGates
import Derived.Test.Qxb6608823aBuild
import Derived.WalkSmall
namespace Go.Proofs.Qxb6608823a
open Go.ChangeShapes Go.WideShapes Go.ChangeAt Go.RowKit
attribute [local go_sem] neq44_same

theorem ChansAt.alloc {w : World} {cl : List Ch} (h : ChansAt w cl) (o : Go.Obj) : ChansAt (w.alloc o) cl := h.grown (World.grownBy_alloc w o none) (fun _ _ => by simp)

theorem below3 (w : World) (A B C : Go.Obj) : Below w.heap.size w (((w.alloc A).alloc B).alloc C) := by
  have h1 := (Below.refl w.heap.size w).alloc (Nat.le_refl _) A
  have h2 := h1.alloc h1.size B
  exact h2.alloc h2.size C

theorem IsChans.alloc {w : World} {a : Option Addr} {len : Nat} {cl : List Ch} (h : IsChans w a len cl) (o : Go.Obj) : IsChans (w.alloc o) a len cl := by
  obtain ⟨h1, h2, h4⟩ := h
  refine ⟨h1, h2.alloc o, fun hp => ?_⟩
  obtain ⟨b, off, e, hb, hc⟩ := h4 hp
  exact ⟨b, off, e, by simp; omega, fun i hi => (World.cell?_alloc_lt w o ⟨b, off + i, none⟩ hb).trans (hc i hi)⟩

theorem IsChans.take {w : World} {a : Option Addr} {len k : Nat} {cl : List Ch} (h : IsChans w a len cl) (hk : k ≤ len) : IsChans w a k (cl.take k) := by
  obtain ⟨h1, h2, h4⟩ := h
  refine ⟨by simp; omega, fun c hc => h2 c (List.mem_of_mem_take hc), fun hp => ?_⟩
  obtain ⟨b, off, e, hb, hc⟩ := h4 (by omega)
  refine ⟨b, off, e, hb, fun i hi => ?_⟩
  rw [hc i (by omega), List.getD_eq_getElem?_getD, List.getD_eq_getElem?_getD, List.getElem?_take_of_lt hi]

theorem IsChans.drop {w : World} {b off len k : Nat} {cl : List Ch} (h : IsChans w (some ⟨b, off, none⟩) len cl) (hk : k ≤ len) : IsChans w (some ⟨b, off + k, none⟩) (len - k) (cl.drop k) := by
  obtain ⟨h1, h2, h4⟩ := h
  refine ⟨by simp; omega, fun c hc => h2 c (List.mem_of_mem_drop hc), fun hp => ?_⟩
  obtain ⟨b', off', e, hb, hc⟩ := h4 (by omega)
  cases e
  refine ⟨b, off + k, rfl, hb, fun i hi => ?_⟩
  rw [Nat.add_assoc, hc (k + i) (by omega), List.getD_eq_getElem?_getD, List.getD_eq_getElem?_getD, List.getElem?_drop]

theorem isChans_none (w : World) (a : Option Addr) : IsChans w a 0 [] := ⟨rfl, (fun _ hc => absurd hc List.not_mem_nil), fun h => absurd h (Nat.lt_irrefl _)⟩

set_option maxHeartbeats 1000000 in
theorem walk5 (a : Option Addr) (len cap : Nat) (ss : List ByteArray) (cut : Int) (x : ByteArray) (w : World) (h : IsStrs w a len ss) (hx : x.size ≤ maxLen) :
    Calls Try.prog 5 #[.slice a len cap, .int .i64 cut, .string x] w fun e w' => e = .returned (.bool true) ∧ Below w.heap.size w w' := by
  go_enter Try.func5, Try.ntmps5
  go_wp2_with fail
  go_at_call 13
  refine (bytes13 _ _ _ _ _ ss _ h hx).mono ?_
  rintro e w ⟨b, rfl, rfl, hfit⟩
  cases b
  · go_wp2_with fail
    go_ret
    exact ⟨rfl, Below.refl _ _⟩
  · have hl := (hfit rfl).le
    clear hfit
    obtain ⟨t1a, t1b⟩ := addLen_bd (t := 0) (n := x.size) (by decide) (by omega)
    go_wp2_with fail
    go_at_call 8
    refine (add8 0 x.size _ (by decide) (by decide) (by omega)).mono ?_
    rintro e w ⟨rfl, rfl⟩
    obtain ⟨t1, ht1⟩ : ∃ t1, t1 = addLen 0 x.size := ⟨_, rfl⟩
    rw [← ht1] at t1a t1b ⊢
    clear ht1
    go_wp2_with fail
    go_at_call 9
    refine (add9 _ _ _ _ ss _ h t1a t1b).mono ?_
    rintro e w1 ⟨t2, q, rfl, hw1, t2a, t2b⟩
    have hb1 : Below w.heap.size w w1 := by rw [hw1]; exact below_drewN (Below.refl _ _) q
    have hz1 : w1.heap.size = w.heap.size := by rw [hw1]; rfl
    clear hw1 t1a t1b
    have g := h.below hb1
    clear h
    by_cases ht : t2 ≤ 1048576
    · by_cases hc0 : 0 ≤ cut
      · by_cases hc1 : cut ≤ len
        · obtain ⟨k, rfl⟩ : ∃ k : Nat, cut = k := ⟨cut.toNat, by omega⟩
          have hkl : k ≤ len := by omega
          go_wp2_with fail
          go_at_call 14
          refine (build14 _ _ _ ss _ g hl).mono ?_
          rintro e w2 ⟨cl, rfl, hch, hfst, _, hbel⟩
          have hbw : Below w.heap.size w w2 := hb1.trans (hbel.mono (by omega))
          have gs := g.below hbel
          clear g hb1 hbel t2a t2b ht hz1
          obtain ⟨R, hR⟩ : ∃ R, R = w1.heap.size := ⟨_, rfl⟩
          rw [← hR] at hch ⊢
          clear hR
          have HC : Hid (IsChans w2 (some ⟨R, 0, none⟩) len cl) := hch
          have HF : Hid (cl.map Prod.fst = ss) := hfst
          clear hch hfst
          have HT : Hid (IsChans w2 (some ⟨R, 0, none⟩) k (cl.take k)) := HC.out.take hkl
          obtain ⟨v0, e0⟩ : ∃ v0, v0 = fnd x cl := ⟨_, rfl⟩
          obtain ⟨v1, e1⟩ : ∃ v1, v1 = fnd x (cl.take k) := ⟨_, rfl⟩
          obtain ⟨v2, e2⟩ : ∃ v2, v2 = fnd x (cl.drop k) := ⟨_, rfl⟩
          have E0 : Hid (v0 = fnd x cl) := e0
          have E1 : Hid (v1 = fnd x (cl.take k)) := e1
          have E2 : Hid (v2 = fnd x (cl.drop k)) := e2
          have EV : Hid (v0 = v1.or v2) := by show v0 = v1.or v2; rw [e0, e1, e2, ← fnd_append, List.take_append_drop]
          have EO : Hid (v0.isSome = occ x ss) := by show v0.isSome = occ x ss; rw [e0, fnd_occ, HF.out]
          have EM : Hid (∀ p, v0 = some p → ∃ bb, p = ⟨bb, 0, none⟩ ∧ bb < w2.heap.size ∧ w2.cell? ⟨bb, 0, none⟩ = some (.string x)) := by
            intro p hp
            rw [e0] at hp
            obtain ⟨c, hc, rfl, hcx⟩ := fnd_mem hp
            obtain ⟨q1, q2⟩ := HC.out.2.1 c hc
            exact ⟨c.2, rfl, q2.lt, by rw [← hcx]; exact q1⟩
          clear e0 e1 e2 HF
          by_cases hkk : len = k
          · subst hkk
            have HD : Hid (IsChans w2 (some ⟨R, 0, none⟩) 0 (cl.drop len)) := by
              show IsChans w2 (some ⟨R, 0, none⟩) 0 (cl.drop len)
              rw [List.drop_eq_nil_of_le (by rw [HC.out.1]; omega)]; exact isChans_none _ _
            go_wp2_with fail
            go_at_call 15
            refine (channel15 _ (some ⟨R, 0, none⟩) len len x cl _ (by go_simp) (((HC.out.alloc _).alloc _).alloc _) (by omega)).mono ?_
            rintro e w3 ⟨rfl, rfl⟩
            rw [← E0.out]
            go_wp2_with fail
            go_at_call 15
            refine (channel15 _ (some ⟨R, 0, none⟩) len len x (cl.take len) _ (by go_simp) (((HT.out.alloc _).alloc _).alloc _) (by omega)).mono ?_
            rintro e w3 ⟨rfl, rfl⟩
            rw [← E1.out]
            go_wp2_with fail
            go_at_call 15
            refine (channel15 _ (some ⟨R, 0, none⟩) 0 0 x (cl.drop len) _ (by go_simp) (((HD.out.alloc _).alloc _).alloc _) (by omega)).mono ?_
            rintro e w3 ⟨rfl, rfl⟩
            rw [← E2.out]
            clear HC HT HD E0 E1 E2
            have gs3 : ∀ A B C, IsStrs (((w2.alloc A).alloc B).alloc C) a len ss := fun A B C =>
              gs.below (below3 w2 A B C)
            have BEL : Hid (∀ A B C, Below w.heap.size w (((w2.alloc A).alloc B).alloc C)) := fun A B C =>
              hbw.trans ((below3 w2 A B C).mono hbw.size)
            have z := hbw.size
            clear gs hbw
            have fin : (∃ p, v0 = some p ∧ (v1 = some p ∨ (v1 = none ∧ v2 = some p))) ∨ (v0 = none ∧ v1 = none ∧ v2 = none) := by
              have := EV.out
              cases v1 with
              | some p => exact Or.inl ⟨p, by simpa using this, Or.inl rfl⟩
              | none =>
                cases v2 with
                | some p => exact Or.inl ⟨p, by simpa using this, Or.inr ⟨rfl, rfl⟩⟩
                | none => exact Or.inr ⟨by simpa using this, rfl, rfl⟩
            clear EV
            rcases fin with ⟨p, rfl, hv⟩ | ⟨rfl, rfl, rfl⟩
            · obtain ⟨bb, rfl, hbb, hcb⟩ := EM.out p rfl
              have hcb3 : ∀ A B C, (((w2.alloc A).alloc B).alloc C).cell? ⟨bb, 0, none⟩ = some (.string x) := fun A B C => ((below3 w2 A B C).cell (p := ⟨bb, 0, none⟩) hbb).trans hcb
              have eo : occ x ss = true := EO.out.symm
              have O16 := fun A B C => occurs16 a len cap x ss _ (gs3 A B C) hl
              rw [eo] at O16
              clear EO EM eo gs3
              rcases hv with rfl | ⟨rfl, rfl⟩
              all_goals
                go_wp2_with fail
                go_at_call 16
                refine (O16 _ _ _).mono ?_
                rintro e w3 ⟨rfl, rfl⟩
                go_wp2_with (go_at_call 17; refine (name17 bb x _ (hcb3 _ _ _)).mono ?_; rintro e w3 ⟨rfl, rfl⟩)
                go_ret
                exact ⟨rfl, BEL.out _ _ _⟩
            · have eo : occ x ss = false := EO.out.symm
              have O16 := fun A B C => occurs16 a len cap x ss _ (gs3 A B C) hl
              rw [eo] at O16
              clear EO EM eo gs3
              go_wp2_with fail
              go_at_call 16
              refine (O16 _ _ _).mono ?_
              rintro e w3 ⟨rfl, rfl⟩
              go_wp2_with fail
              go_ret
              exact ⟨rfl, BEL.out _ _ _⟩
          · have hk2 : k < len := by omega
            have HD : Hid (IsChans w2 (some ⟨R, k, none⟩) (len - k) (cl.drop k)) := by
              have := HC.out.drop hkl
              rw [Nat.zero_add] at this
              exact this
            go_wp2_with fail
            go_at_call 15
            refine (channel15 _ (some ⟨R, 0, none⟩) len len x cl _ (by go_simp) (((HC.out.alloc _).alloc _).alloc _) (by omega)).mono ?_
            rintro e w3 ⟨rfl, rfl⟩
            rw [← E0.out]
            go_wp2_with fail
            go_at_call 15
            refine (channel15 _ (some ⟨R, 0, none⟩) k len x (cl.take k) _ (by go_simp) (((HT.out.alloc _).alloc _).alloc _) (by omega)).mono ?_
            rintro e w3 ⟨rfl, rfl⟩
            rw [← E1.out]
            go_wp2_with fail
            go_at_call 15
            refine (channel15 _ (some ⟨R, k, none⟩) (len - k) (len - k) x (cl.drop k) _ (by go_simp) (((HD.out.alloc _).alloc _).alloc _) (by omega)).mono ?_
            rintro e w3 ⟨rfl, rfl⟩
            rw [← E2.out]
            clear HC HT HD E0 E1 E2
            have gs3 : ∀ A B C, IsStrs (((w2.alloc A).alloc B).alloc C) a len ss := fun A B C =>
              gs.below (below3 w2 A B C)
            have BEL : Hid (∀ A B C, Below w.heap.size w (((w2.alloc A).alloc B).alloc C)) := fun A B C =>
              hbw.trans ((below3 w2 A B C).mono hbw.size)
            have z := hbw.size
            clear gs hbw
            have fin : (∃ p, v0 = some p ∧ (v1 = some p ∨ (v1 = none ∧ v2 = some p))) ∨ (v0 = none ∧ v1 = none ∧ v2 = none) := by
              have := EV.out
              cases v1 with
              | some p => exact Or.inl ⟨p, by simpa using this, Or.inl rfl⟩
              | none =>
                cases v2 with
                | some p => exact Or.inl ⟨p, by simpa using this, Or.inr ⟨rfl, rfl⟩⟩
                | none => exact Or.inr ⟨by simpa using this, rfl, rfl⟩
            clear EV
            rcases fin with ⟨p, rfl, hv⟩ | ⟨rfl, rfl, rfl⟩
            · obtain ⟨bb, rfl, hbb, hcb⟩ := EM.out p rfl
              have hcb3 : ∀ A B C, (((w2.alloc A).alloc B).alloc C).cell? ⟨bb, 0, none⟩ = some (.string x) := fun A B C => ((below3 w2 A B C).cell (p := ⟨bb, 0, none⟩) hbb).trans hcb
              have eo : occ x ss = true := EO.out.symm
              have O16 := fun A B C => occurs16 a len cap x ss _ (gs3 A B C) hl
              rw [eo] at O16
              clear EO EM eo gs3
              rcases hv with rfl | ⟨rfl, rfl⟩
              all_goals
                go_wp2_with fail
                go_at_call 16
                refine (O16 _ _ _).mono ?_
                rintro e w3 ⟨rfl, rfl⟩
                go_wp2_with (go_at_call 17; refine (name17 bb x _ (hcb3 _ _ _)).mono ?_; rintro e w3 ⟨rfl, rfl⟩)
                go_ret
                exact ⟨rfl, BEL.out _ _ _⟩
            · have eo : occ x ss = false := EO.out.symm
              have O16 := fun A B C => occurs16 a len cap x ss _ (gs3 A B C) hl
              rw [eo] at O16
              clear EO EM eo gs3
              go_wp2_with fail
              go_at_call 16
              refine (O16 _ _ _).mono ?_
              rintro e w3 ⟨rfl, rfl⟩
              go_wp2_with fail
              go_ret
              exact ⟨rfl, BEL.out _ _ _⟩
        · go_wp2_with fail
          go_ret
          exact ⟨rfl, by assumption⟩
      · go_wp2_with fail
        go_ret
        exact ⟨rfl, by assumption⟩
    · go_wp2_with fail
      go_ret
      exact ⟨rfl, by assumption⟩
end Go.Proofs.Qxb6608823a
