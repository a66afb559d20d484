/-
  'FnObjectsOfStableAcrossCalls', WALKED.
-/
import Derived.Test.Qxb6608823aGates
import Derived.Test.Qxb6608823aOf
import Derived.WalkSmall
namespace Go.Proofs.Qxb6608823a
open Go.ChangeShapes Go.WideShapes Go.ChangeAt Go.RowKit
attribute [local go_sem] neq30_same

/-- What a call of 'ZZobjectsOf' leaves, whether the key was there or not. -/
def OfQ (b n : Nat) (D : PD) (s : ByteArray) (w : World) (p : Addr) (D' : PD) (w' : World) : Prop :=
  PM w' b (n + 1) D' ∧ Good w' D' ∧ w.grownBy w' (some b) ∧ pA D' s = some p ∧ (∀ t, t ≠ s → pA D' t = pA D t ∧ pH D' t = pH D t) ∧ pH D' s = true ∧
    pN D' = (if pH D s then pN D else pN D + 1) ∧ ∀ q, pA D s = some q → p = q
def OfP (b n : Nat) (D : PD) (s : ByteArray) (w : World) (e : Ending) (w' : World) : Prop := ∃ p D', e = .returned (.pointer (some p)) ∧ OfQ b n D s w p D' w'

section
variable {b n : Nat} {D D' : PD} {s : ByteArray} {w w' : World} {p : Addr}
theorem OfQ.pm (h : OfQ b n D s w p D' w') : PM w' b (n + 1) D' := h.1
theorem OfQ.good (h : OfQ b n D s w p D' w') : Good w' D' := h.2.1
theorem OfQ.grown (h : OfQ b n D s w p D' w') : w.grownBy w' (some b) := h.2.2.1
theorem OfQ.here (h : OfQ b n D s w p D' w') : pA D' s = some p := h.2.2.2.1
theorem OfQ.otherA (h : OfQ b n D s w p D' w') {t : ByteArray} (ht : t ≠ s) : pA D' t = pA D t := (h.2.2.2.2.1 t ht).1
theorem OfQ.otherH (h : OfQ b n D s w p D' w') {t : ByteArray} (ht : t ≠ s) : pH D' t = pH D t := (h.2.2.2.2.1 t ht).2
theorem OfQ.has (h : OfQ b n D s w p D' w') : pH D' s = true := h.2.2.2.2.2.1
theorem OfQ.num (h : OfQ b n D s w p D' w') : pN D' = (if pH D s then pN D else pN D + 1) := h.2.2.2.2.2.2.1
theorem OfQ.was (h : OfQ b n D s w p D' w') {q : Addr} (hq : pA D s = some q) : p = q := h.2.2.2.2.2.2.2 q hq
end

theorem of11 (b n : Nat) (D : PD) (s : ByteArray) (w : World) (hm : PM w b n D) (hg : Good w D) (hs : s.size ≤ maxLen) (hn : n < maxLen) : Calls Try.prog 11 #[.map (some b), .string s] w (OfP b n D s w) := by
  cases hp : pA D s with
  | some p =>
    refine (of11_have b n D s w p hm hs hp).mono ?_
    rintro e w' ⟨rfl, rfl⟩
    exact ⟨p, D, rfl, hm.mono (Nat.le_succ _), hg, World.grownBy.refl _ _, hp, fun t _ => ⟨rfl, rfl⟩, pH_of_pA hp, by rw [pH_of_pA hp]; rfl, fun q hq => by rw [hp] at hq; exact Option.some.inj hq⟩
  | none =>
    refine (of11_new b n D s w hm hg hs hn hp).mono ?_
    rintro e w' ⟨rfl, hm', gg, hg'⟩
    exact ⟨_, _, rfl, hm', hg', gg, pA_put_same hm s _, fun t ht => ⟨pA_put_other ht _, pH_put_other ht _⟩, pH_put_same hm s _, pN_put hm s _, fun q hq => by rw [hp] at hq; cases hq⟩

/-- The three calls together: what the law asks of them. -/
theorem three {M n : Nat} {D D1 D2 D3 : PD} {p q : ByteArray} {w2 w3 w4 w5 : World} {p1 p2 p3 : Addr} (Q1 : OfQ M n D p w2 p1 D1 w3) (Q2 : OfQ M (n + 1) D1 q w3 p2 D2 w4) (Q3 : OfQ M (n + 1 + 1) D2 p w4 p3 D3 w5) :
    p3 = p1 ∧ pA D3 p = some p1 ∧ pA D3 q = some p2 ∧ pN D3 = pN D2 ∧ (p = q → p2 = p1) ∧ (p ≠ q → p1 ≠ p2) := by
  by_cases e : p = q
  · subst e
    have e2 : p2 = p1 := Q2.was Q1.here
    have e3 : p3 = p2 := Q3.was Q2.here
    refine ⟨e3.trans e2, by rw [Q3.here, e3, e2], by rw [Q3.here, e3], by rw [Q3.num, Q2.has]; rfl, fun _ => e2, fun h => absurd rfl h⟩
  · have a2 : pA D2 p = some p1 := (Q2.otherA e).trans Q1.here
    have e3 : p3 = p1 := Q3.was a2
    refine ⟨e3, by rw [Q3.here, e3], (Q3.otherA (fun h => e h.symm)).trans Q2.here, by rw [Q3.num, pH_of_pA a2]; rfl, fun h => absurd h e, fun _ h => ?_⟩
    rw [h] at a2
    exact e (Q2.good.2 p q p2 a2 Q2.here)

set_option maxHeartbeats 1000000 in
theorem walk4 (a : Option Addr) (len cap : Nat) (ss : List ByteArray) (a' : Option Addr) (len' cap' : Nat) (bs : List Bool) (p q : ByteArray) (w : World) (h : IsStrs w a len ss) (h' : IsBools w a' len' bs) (hp : p.size ≤ maxLen) (hq : q.size ≤ maxLen) :
    Calls Try.prog 4 #[.slice a len cap, .slice a' len' cap', .string p, .string q] w fun e w' => e = .returned (.bool true) ∧ Below w.heap.size w w' := by
  go_enter Try.func4, Try.ntmps4
  go_wp2_with fail
  go_at_call 12
  refine (bytes12 _ _ _ _ _ _ _ _ ss _ h h'.2.1 hp hq).mono ?_
  rintro e w ⟨b, rfl, rfl, hfit⟩
  cases b
  · go_wp2_with fail
    go_ret
    exact ⟨rfl, Below.refl _ _⟩
  · have hl := (hfit rfl).le
    clear hfit
    obtain ⟨t0a, t0b⟩ := addLen_bd (t := 0) (n := p.size) (by decide) (by omega)
    go_wp2_with fail
    go_at_call 8
    refine (add8 0 p.size _ (by decide) (by decide) (by omega)).mono ?_
    rintro e w ⟨rfl, rfl⟩
    obtain ⟨t0, ht0⟩ : ∃ t0, t0 = addLen 0 p.size := ⟨_, rfl⟩
    rw [← ht0] at t0a t0b ⊢
    clear ht0
    obtain ⟨t1a, t1b⟩ := addLen_bd (t := t0) (n := q.size) t0a (by omega)
    go_wp2_with fail
    go_at_call 8
    refine (add8 t0 q.size _ t0a t0b (by omega)).mono ?_
    rintro e w ⟨rfl, rfl⟩
    obtain ⟨t1, ht1⟩ : ∃ t1, t1 = addLen t0 q.size := ⟨_, rfl⟩
    rw [← ht1] at t1a t1b ⊢
    clear ht1 t0a t0b
    go_wp2_with fail
    go_at_call 9
    refine (add9 _ _ _ _ ss _ h t1a t1b).mono ?_
    rintro e w1 ⟨t2, q2, rfl, hw1, t2a, t2b⟩
    have hb1 : Below w.heap.size w w1 := by rw [hw1]; exact below_drewN (Below.refl _ _) q2
    have hz1 : w1.heap.size = w.heap.size := by rw [hw1]; rfl
    clear hw1 t1a t1b
    have g := h.below hb1
    have g' := h'.below hb1
    obtain ⟨t3a, t3b⟩ := addLen_bd (t := t2) (n := len') t2a (by omega)
    go_wp2_with fail
    go_at_call 8
    refine (add8 t2 len' _ t2a t2b (by omega)).mono ?_
    rintro e w1 ⟨rfl, rfl⟩
    obtain ⟨t3, ht3⟩ : ∃ t3, t3 = addLen t2 len' := ⟨_, rfl⟩
    rw [← ht3] at t3a t3b ⊢
    clear ht3 h h' t2a t2b
    by_cases ht : t3 ≤ 1048576
    · go_wp2_with fail
      go_at_call 10
      refine (build10 _ _ _ _ _ _ ss bs _ g g' hl).mono ?_
      rintro e w2 ⟨D, rfl, hm, hb, hgood, hall, hbel⟩
      have hbw : Below w.heap.size w w2 := hb1.trans (hbel.mono (by omega))
      clear g g' hb1 hbel ht t3a t3b hall
      have hN : pN D ≤ len := hm.size_le
      obtain ⟨M, hM⟩ : ∃ M, M = w1.heap.size := ⟨_, rfl⟩
      rw [← hM] at hm hb ⊢
      have hwM : w.heap.size ≤ M := by omega
      clear hM hz1
      have r1 := hb.look_ok hp
      have r2 := hb.look_ok hq
      obtain ⟨x1, hx1⟩ : ∃ x1, x1 = pA D p := ⟨_, rfl⟩
      obtain ⟨x2, hx2⟩ : ∃ x2, x2 = pA D q := ⟨_, rfl⟩
      obtain ⟨hP, eP⟩ : ∃ hP, hP = pH D p := ⟨_, rfl⟩
      obtain ⟨hQ, eQ⟩ : ∃ hQ, hQ = pH D q := ⟨_, rfl⟩
      obtain ⟨n0, en⟩ : ∃ n0, n0 = pN D := ⟨_, rfl⟩
      rw [← hx1, ← eP] at r1
      rw [← hx2, ← eQ] at r2
      rw [← en] at hN
      have EP : Hid (hP = pH D p) := eP
      have EQ : Hid (hQ = pH D q) := eQ
      have EN : Hid (n0 = pN D) := en
      clear hx1 hx2 eP eQ en
      have C1 := of11 M len D p w2 hm hgood hp (by unfold maxLen; omega)
      have hlt2 := hm.lt
      go_wp2_with fail
      go_at_call 11
      refine C1.mono ?_
      clear C1 r1 r2
      rintro e w3 ⟨p1, D1, rfl, Q1⟩
      have bel3 := hbw.grown Q1.grown hbw.size (fun k hk => by cases hk; exact hwM)
      have b3 := hb.kept Q1.grown (by simp)
      have l3 := Q1.pm.len
      obtain ⟨n1, en1⟩ : ∃ n1, n1 = pN D1 := ⟨_, rfl⟩
      rw [← en1] at l3
      have EN1 : Hid (n1 = pN D1) := en1
      have C2 := of11 M (len + 1) D1 q w3 Q1.pm Q1.good hq (by unfold maxLen; omega)
      clear en1 hm hb hgood hbw
      go_wp2_with fail
      go_at_call 11
      refine C2.mono ?_
      clear C2 l3
      rintro e w4 ⟨p2, D2, rfl, Q2⟩
      have bel4 := bel3.grown Q2.grown bel3.size (fun k hk => by cases hk; exact hwM)
      have b4 := b3.kept Q2.grown (by simp)
      have l4 := Q2.pm.len
      obtain ⟨n2, en2⟩ : ∃ n2, n2 = pN D2 := ⟨_, rfl⟩
      rw [← en2] at l4
      have EN2 : Hid (n2 = pN D2) := en2
      have C3 := of11 M (len + 1 + 1) D2 p w4 Q2.pm Q2.good hp (by unfold maxLen; omega)
      clear en2 b3 bel3
      go_wp2_with fail
      go_at_call 11
      refine C3.mono ?_
      clear C3 l4
      rintro e w5 ⟨p3, D3, rfl, Q3⟩
      have bel5 := bel4.grown Q3.grown bel4.size (fun k hk => by cases hk; exact hwM)
      have b5 := b4.kept Q3.grown (by simp)
      clear b4 bel4
      obtain ⟨rfl, k1, k2, k3, k4, k5⟩ := three Q1 Q2 Q3
      have v1 := Q3.pm.look hp
      have v2 := Q3.pm.look hq
      have l5 := Q3.pm.len
      have l6 := b5.len
      rw [k1] at v1
      rw [k2] at v2
      rw [k3, ← EN2.out] at l5
      rw [← EN.out] at l6
      have z1 := Q1.num
      have z2 := Q2.num
      rw [← EN1.out, ← EP.out, ← EN.out] at z1
      rw [← EN1.out, ← EN2.out] at z2
      have O1 : Obj w5 p3 := Q3.good.1 p p3 k1
      have O2 : Obj w5 p2 := Q3.good.1 q p2 k2
      have BEL : Hid (Below w.heap.size w w5) := bel5
      by_cases hpq : p = q
      · have e1 := str_eq hpq
        have e2 := str_eq hpq.symm
        obtain rfl := k4 hpq
        have z2' : pH D1 q = true := by rw [← hpq]; exact Q1.has
        rw [z2'] at z2
        have v3 := eql30_same w5 (some p2)
        clear Q1 Q2 Q3 k1 k2 k3 k4 k5 O1 O2 b5 z2' hpq bel5 EN EN1 EN2 EQ EP
        cases hP <;> simp only [if_true, if_false, Bool.false_eq_true] at z1 z2 <;> subst z1 <;> subst z2
        all_goals
          cases hQ
          all_goals
            go_wp2_with fail
            go_ret
            exact ⟨rfl, BEL.out⟩
      · have e1 := str_ne hpq
        have e2 := str_ne (fun h => hpq h.symm : q ≠ p)
        have z2' : pH D1 q = pH D q := Q1.otherH (fun h => hpq h.symm)
        rw [z2', ← EQ.out] at z2
        have v3 := eql30_other w5 (k5 hpq) O1 O2
        clear Q1 Q2 Q3 k1 k2 k3 k4 k5 O1 O2 b5 z2' hpq bel5 EN EN1 EN2 EQ EP
        cases hP <;> cases hQ <;> simp only [if_true, if_false, Bool.false_eq_true] at z1 z2 <;> subst z1 <;> subst z2
        all_goals
          go_wp2_with fail
          go_ret
          exact ⟨rfl, BEL.out⟩
    · go_wp2_with fail
      go_ret
      exact ⟨rfl, by assumption⟩
end Go.Proofs.Qxb6608823a
