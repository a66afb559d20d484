/-
  'FnChannelInsertedFoundUnlessEarlier', WALKED.
-/
import Derived.Test.Qxb6608823aL3
namespace Go.Proofs.Qxb6608823a
open Go.ChangeShapes Go.WideShapes Go.ChangeAt Go.RowKit
attribute [local go_sem] neq44_same

theorem below2 (w : World) (A B : Go.Obj) : Below w.heap.size w ((w.alloc A).alloc B) := by
  have h1 := (Below.refl w.heap.size w).alloc (Nat.le_refl _) A
  exact h1.alloc h1.size B

theorem IsStrs.take {w : World} {a : Option Addr} {len k : Nat} {ss : List ByteArray} (h : IsStrs w a len ss) (hk : k ≤ len) : IsStrs w a k (ss.take k) := by
  obtain ⟨h1, h2, h3, h4⟩ := h
  refine ⟨by simp; omega, by omega, fun s hs => h3 s (List.mem_of_mem_take hs), fun hp => ?_⟩
  obtain ⟨b, off, e, hb, hc⟩ := h4 (by omega)
  refine ⟨b, off, e, hb, fun i hi => ?_⟩
  rw [hc i (by omega), List.getD_eq_getElem?_getD, List.getD_eq_getElem?_getD, List.getElem?_take_of_lt hi]

theorem Obj.below {w w' : World} {p : Addr} {N : Nat} (h : Obj w p) (hb : Below N w w') (hN : p.block < N) : Obj w' p := by
  obtain ⟨ca, ta, h⟩ := h
  exact ⟨ca, ta, (hb.block _ hN).trans h⟩
theorem ChansAt.below {w w' : World} {cl : List Ch} (h : ChansAt w cl) (hb : Below w.heap.size w w') : ChansAt w' cl := fun c hc => by
  obtain ⟨q1, q2⟩ := h c hc
  exact ⟨(hb.cell (p := ⟨c.2, 0, none⟩) q2.lt).trans q1, q2.below hb q2.lt⟩
theorem IsChans.below {w w' : World} {a : Option Addr} {len : Nat} {cl : List Ch} (h : IsChans w a len cl) (hb : Below w.heap.size w w') : IsChans w' a len cl := by
  obtain ⟨h1, h2, h4⟩ := h
  refine ⟨h1, h2.below hb, fun hp => ?_⟩
  obtain ⟨b, off, e, hlt, hc⟩ := h4 hp
  exact ⟨b, off, e, Nat.lt_of_lt_of_le hlt hb.size, fun i hi => (hb.cell (p := ⟨b, off + i, none⟩) hlt).trans (hc i hi)⟩

/-! ### The list that is appended to -/
def pv (c : Ch) : Value := .pointer (some (at0 c))
/-- The row behind block w.heap.size holds M, with room for n. -/
def App (w : World) (n : Nat) (M : List Ch) (wr : World) : Prop :=
  wr.ownsRow w.heap.size 44 1 (.slice (some ⟨w.heap.size, 0, none⟩) M.length n) M.length (M.map pv) ∧ Below w.heap.size w wr

theorem App.step {w wr wa w' : World} {n : Nat} {M : List Ch} (h : App w n M wr) (c : Ch) (ha : wr.grownBy wa none) (ho : w'.ownsRow w.heap.size 44 1 (.slice (some ⟨w.heap.size, 0, none⟩) (M.length + 1) n) (M.length + 1) (M.map pv ++ [pv c])) (hg : wa.grownBy w' (some w.heap.size)) : App w n (M ++ [c]) w' := by
  obtain ⟨_, h2⟩ := h
  have e : (M ++ [c]).length = M.length + 1 := by simp
  refine ⟨by rw [e, List.map_append]; exact ho, ?_⟩
  have b1 := h2.grown ha h2.size (fun k hk => by cases hk)
  exact b1.grown hg b1.size (fun k hk => by cases hk; exact Nat.le_refl _)

theorem App.chans {w wr : World} {n : Nat} {M : List Ch} (h : App w n M wr) (hc : ChansAt w M) : IsChans wr (some ⟨w.heap.size, 0, none⟩) M.length M := by
  refine ⟨rfl, hc.below h.2, fun _ => ⟨w.heap.size, 0, rfl, owns_lt h.1, fun i hi => ?_⟩⟩
  rw [Nat.zero_add, h.1.cellAt i (by omega)]
  have e : M.getD i c0 = M[i] := by simp [List.getD, hi]
  rw [e]
  simp [hi, pv, at0]

theorem news_one (w : World) (v : Value) (t : TypeId) : ∀ j u, [v][j]? = some u → (w.alloc (.cells #[v] t)).cell? ((⟨w.heap.size, 0, none⟩ : Addr).add j) = some u := by
  intro j u hj
  match j, hj with
  | 0, hj => simp at hj; subst hj; simp [Addr.add]
theorem news_ptr (p : Option Addr) : ∀ u ∈ [Value.pointer p], u.oneCell' = true := by
  intro u hu
  simp at hu
  subst hu
  rfl

/-- The list with the new channel put in, as the law asks of it. -/
theorem ins_find {cl : List Ch} (j : Nat) {x : ByteArray} {I : Nat} : fnd x (cl.take j ++ [(x, I)] ++ cl.drop j) = (fnd x (cl.take j)).or (some ⟨I, 0, none⟩) := by
  rw [List.append_assoc, fnd_append]
  have e : fnd x ([(x, I)] ++ cl.drop j) = some ⟨I, 0, none⟩ := by
    simp only [List.cons_append, List.nil_append, fnd]
    rw [str_eq rfl]
    rfl
  rw [e]
theorem ins_other {cl : List Ch} (j : Nat) {x y : ByteArray} {I : Nat} (h : x ≠ y) : fnd y (cl.take j ++ [(x, I)] ++ cl.drop j) = fnd y cl := by
  rw [List.append_assoc, fnd_append]
  have e : fnd y ([(x, I)] ++ cl.drop j) = fnd y (cl.drop j) := by
    simp only [List.cons_append, List.nil_append, fnd]
    rw [str_ne h]
    rfl
  rw [e, ← fnd_append, List.take_append_drop]
theorem ins_before {cl : List Ch} (j : Nat) {x : ByteArray} {p : Addr} (h : fnd x (cl.take j) = some p) : fnd x cl = some p := by
  rw [← List.take_append_drop j cl, fnd_append, h]
  rfl

theorem snoc_take {cl : List Ch} {k pos : Nat} (hp : pos ≤ k) (hk : k < cl.length) : (cl.take (k + 1)).drop pos = (cl.take k).drop pos ++ [cl.getD k c0] := by
  have e : cl.getD k c0 = cl[k] := by simp [List.getD, hk]
  rw [e, List.take_succ_eq_append_getElem hk, List.drop_append_of_le_length (by simp; omega)]
theorem take_snoc {cl : List Ch} {k : Nat} (hk : k < cl.length) : cl.take (k + 1) = cl.take k ++ [cl.getD k c0] := by
  have e : cl.getD k c0 = cl[k] := by simp [List.getD, hk]
  rw [e, List.take_succ_eq_append_getElem hk]

set_option maxHeartbeats 1000000 in
theorem walk6 (a : Option Addr) (len cap : Nat) (ss : List ByteArray) (pos : Int) (x y : ByteArray) (w : World) (h : IsStrs w a len ss) (hcap : len ≤ cap) (hx : x.size ≤ maxLen) (hy : y.size ≤ maxLen) :
    Calls Try.prog 6 #[.slice a len cap, .int .i64 pos, .string x, .string y] w fun e w' => e = .returned (.bool true) ∧ Below w.heap.size w w' := by
  go_enter Try.func6, Try.ntmps6
  go_wp2_with fail
  go_at_call 18
  refine (bytes18 _ _ _ _ _ _ ss _ h hx hy).mono ?_
  rintro e w ⟨b, rfl, rfl, hfit⟩
  cases b
  · go_wp2_with fail
    go_ret
    exact ⟨rfl, Below.refl _ _⟩
  · have hl := (hfit rfl).le
    clear hfit
    obtain ⟨t0a, t0b⟩ := addLen_bd (t := 0) (n := x.size) (by decide) (by omega)
    go_wp2_with fail
    go_at_call 8
    refine (add8 0 x.size _ (by decide) (by decide) (by omega)).mono ?_
    rintro e w ⟨rfl, rfl⟩
    obtain ⟨t0, ht0⟩ : ∃ t0, t0 = addLen 0 x.size := ⟨_, rfl⟩
    rw [← ht0] at t0a t0b ⊢
    clear ht0
    obtain ⟨t1a, t1b⟩ := addLen_bd (t := t0) (n := y.size) t0a (by omega)
    go_wp2_with fail
    go_at_call 8
    refine (add8 t0 y.size _ t0a t0b (by omega)).mono ?_
    rintro e w ⟨rfl, rfl⟩
    obtain ⟨t1, ht1⟩ : ∃ t1, t1 = addLen t0 y.size := ⟨_, rfl⟩
    rw [← ht1] at t1a t1b ⊢
    clear ht1 t0a t0b
    go_wp2_with fail
    go_at_call 9
    refine (add9 _ _ _ _ ss _ h t1a t1b).mono ?_
    rintro e w1 ⟨t2, q, rfl, hw1, t2a, t2b⟩
    have hb1 : Below w.heap.size w w1 := by rw [hw1]; exact below_drewN (Below.refl _ _) q
    have hz1 : w1.heap.size = w.heap.size := by rw [hw1]; rfl
    clear hw1 t1a t1b
    have g := h.below hb1
    clear h
    by_cases ht : t2 ≤ 1048576
    · by_cases hc0 : 0 ≤ pos
      · by_cases hc1 : pos ≤ len
        · obtain ⟨k, rfl⟩ : ∃ k : Nat, pos = k := ⟨pos.toNat, by omega⟩
          have hkl : k ≤ len := by omega
          go_wp2_with fail
          go_at_call 14
          refine (build14 _ _ _ ss _ g hl).mono ?_
          rintro e w2 ⟨cl, rfl, hch, hfst, _, hbel⟩
          have hbw2 : Below w.heap.size w w2 := hb1.trans (hbel.mono (by omega))
          have gs2 := g.below hbel
          obtain ⟨R, hR⟩ : ∃ R, R = w1.heap.size := ⟨_, rfl⟩
          rw [← hR] at hch ⊢
          clear hR g hb1 hbel t2a t2b ht hz1
          go_wp2_with fail
          go_at_call 19
          refine (new19 x _).mono ?_
          rintro e w3 ⟨rfl, c1, o1, z1, g1⟩
          have bel3 : Below w2.heap.size w2 w3 := (Below.refl _ _).grown g1 (Nat.le_refl _) (fun k hk => by cases hk)
          have hbw : Below w.heap.size w w3 := hbw2.trans (bel3.mono hbw2.size)
          have gs := gs2.below bel3
          have hc3 := hch.below bel3
          have hlt : ∀ c ∈ cl, c.2 < w2.heap.size := fun c hc => (hch.2.1 c hc).2.lt
          obtain ⟨I, hI⟩ : ∃ I, I = w2.heap.size := ⟨_, rfl⟩
          rw [← hI] at c1 o1 hlt ⊢
          have HL : Hid (∀ c ∈ cl, c.2 < I) := hlt
          have CI : Hid (w3.cell? ⟨I, 0, none⟩ = some (.string x)) := c1
          have HF : Hid (cl.map Prod.fst = ss) := hfst
          have HC : Hid (IsChans w3 (some ⟨R, 0, none⟩) len cl) := hc3
          clear hI bel3 hch hfst c1 z1 g1 hlt hc3 hbw2 gs2
          obtain ⟨i0, hi, hz0, hz1, hz2⟩ := info_parts info44
          go_wp2_with (at_make; refine wpList_make_own _ rfl _ _ 35 rfl w3.heap.size 44 i0 (.pointer none) 1 Try.underlying35 hi hz0 hz1 .i64 .i64 _ (len + 1) rfl rfl (by simp) (by rw [hz2]; omega) (by unfold maxLen; omega) (Nat.le_refl _) ?_; intro w4 hown hgrow)
          have A0 : App w3 (len + 1) [] w4 := ⟨hown, (Below.refl _ _).grown hgrow (Nat.le_refl _) (fun k hk => by cases hk)⟩
          clear hown hgrow
          go_loopw [12, 13] (fun l i wr => ∃ j : Nat, j ≤ k ∧ i = .int .i64 j ∧ l = .slice (some ⟨w3.heap.size, 0, none⟩) j (len + 1) ∧ App w3 (len + 1) (cl.take j) wr) (fun _ i _ => k - (intOf i).toNat)
          case atStart => exact ⟨0, Nat.zero_le _, rfl, rfl, A0⟩
          case round =>
            obtain ⟨j, hj, rfl, rfl, AJ⟩ := hrel
            clear A0
            have hlen : (cl.take j).length = j := by rw [List.length_take, HC.out.1]; omega
            by_cases hlt : j < k
            · have hcell : wr.cell? ⟨R, j, none⟩ = some (.pointer (some ⟨(cl.getD j c0).2, 0, none⟩)) := by
                obtain ⟨b, off, e, hb, hc⟩ := (HC.out.below AJ.2).2.2 (by omega)
                cases e
                have := hc j (by omega)
                rwa [Nat.zero_add] at this
              have hown := AJ.1
              rw [hlen] at hown
              have HN := take_snoc (cl := cl) (k := j) (by rw [HC.out.1]; omega)
              have HNX : Hid (cl.take (j + 1) = cl.take j ++ [cl.getD j c0]) := HN
              obtain ⟨c, ec⟩ : ∃ c, c = cl.getD j c0 := ⟨_, rfl⟩
              have EC : Hid (c = cl.getD j c0) := ec
              rw [← ec] at hcell
              have HLN : Hid ((cl.take j).length = j) := hlen
              clear HN ec hlen
              go_wp2_with (at_builtin; refine wpList_append_fits _ rfl _ _ 35 rfl w3.heap.size 44 i0 1 Try.underlying35 hi hz1 w3.heap.size j (len + 1) _ rfl (hown.alloc _) ⟨wr.heap.size, 0, none⟩ 1 1 [.pointer (some ⟨c.2, 0, none⟩)] rfl rfl (news_one _ _ _) (news_ptr _) (by omega) ?_; intro w5 hown5 hgrow5)
              have A2 : App w3 (len + 1) (cl.take (j + 1)) w5 := by
                rw [HNX.out, ← EC.out]
                refine AJ.step c (World.grownBy_alloc wr _ none) ?_ hgrow5
                rw [HLN.out]
                exact hown5
              clear hown5 hgrow5 AJ hcell hown
              go_wp2_with fail
              go_roundw
              case rel => exact ⟨j + 1, by omega, by go_num, rfl, A2⟩
              case measure => simp [intOf]; omega
            · obtain rfl : j = k := by omega
              have hown := AJ.1
              rw [hlen] at hown
              have HLN : Hid ((cl.take j).length = j) := hlen
              clear hlen
              go_wp2_with (at_builtin; refine wpList_append_fits _ rfl _ _ 35 rfl w3.heap.size 44 i0 1 Try.underlying35 hi hz1 w3.heap.size j (len + 1) _ rfl (hown.alloc _) ⟨wr.heap.size, 0, none⟩ 1 1 [.pointer (some ⟨I, 0, none⟩)] rfl rfl (news_one _ _ _) (news_ptr _) (by omega) ?_; intro w5 hown5 hgrow5)
              have A2 : App w3 (len + 1) (cl.take j ++ [(x, I)]) w5 := by
                refine AJ.step (x, I) (World.grownBy_alloc wr _ none) ?_ hgrow5
                rw [HLN.out]
                exact hown5
              clear hown5 hgrow5 AJ hown
              go_wp2_with fail
              go_loopw [12, 14] (fun l i wr => ∃ r : Nat, j ≤ r ∧ r ≤ len ∧ i = .int .i64 r ∧ l = .slice (some ⟨w3.heap.size, 0, none⟩) (r + 1) (len + 1) ∧ App w3 (len + 1) (cl.take j ++ [(x, I)] ++ (cl.take r).drop j) wr) (fun _ i _ => len - (intOf i).toNat)
              case atStart => exact ⟨j, Nat.le_refl _, hkl, rfl, rfl, by rw [List.drop_eq_nil_of_le (Nat.le_of_eq HLN.out), List.append_nil]; exact A2⟩
              case round =>
                obtain ⟨r, hjr, hr, rfl, rfl, AR⟩ := hrel
                clear A2
                have hlen2 : (cl.take j ++ [(x, I)] ++ (cl.take r).drop j).length = r + 1 := by
                  simp only [List.length_append, HLN.out, List.length_drop, List.length_take, HC.out.1, List.length_cons, List.length_nil]; omega
                have hown := AR.1
                rw [hlen2] at hown
                have HL2 : Hid ((cl.take j ++ [(x, I)] ++ (cl.take r).drop j).length = r + 1) := hlen2
                clear hlen2
                by_cases hlt2 : r < len
                · have hcell : wr.cell? ⟨R, r, none⟩ = some (.pointer (some ⟨(cl.getD r c0).2, 0, none⟩)) := by
                    obtain ⟨b, off, e, hb, hc⟩ := (HC.out.below AR.2).2.2 (by omega)
                    cases e
                    have := hc r hlt2
                    rwa [Nat.zero_add] at this
                  have HNX : Hid ((cl.take (r + 1)).drop j = (cl.take r).drop j ++ [cl.getD r c0]) := snoc_take hjr (by rw [HC.out.1]; exact hlt2)
                  obtain ⟨c, ec⟩ : ∃ c, c = cl.getD r c0 := ⟨_, rfl⟩
                  have EC : Hid (c = cl.getD r c0) := ec
                  rw [← ec] at hcell
                  clear ec
                  go_wp2_with (at_builtin; refine wpList_append_fits _ rfl _ _ 35 rfl w3.heap.size 44 i0 1 Try.underlying35 hi hz1 w3.heap.size (r + 1) (len + 1) _ rfl (hown.alloc _) ⟨wr.heap.size, 0, none⟩ 1 1 [.pointer (some ⟨c.2, 0, none⟩)] rfl rfl (news_one _ _ _) (news_ptr _) (by omega) ?_; intro w5 hown5 hgrow5)
                  have A2 : App w3 (len + 1) (cl.take j ++ [(x, I)] ++ (cl.take (r + 1)).drop j) w5 := by
                    rw [HNX.out, ← EC.out, ← List.append_assoc]
                    refine AR.step c (World.grownBy_alloc wr _ none) ?_ hgrow5
                    rw [HL2.out]
                    exact hown5
                  clear hown5 hgrow5 AR hcell hown
                  go_wp2_with fail
                  go_roundw
                  case rel => exact ⟨r + 1, by omega, by omega, by go_num, rfl, A2⟩
                  case measure => simp [intOf]; omega
                · obtain rfl : r = len := by omega
                  clear hown
                  rw [List.take_of_length_le (Nat.le_of_eq HC.out.1)] at AR HL2
                  have HM3 : ChansAt w3 (cl.take j ++ [(x, I)] ++ cl.drop j) := by
                    intro c hc
                    rcases List.mem_append.1 hc with hc | hc
                    · rcases List.mem_append.1 hc with hc | hc
                      · exact HC.out.2.1 c (List.mem_of_mem_take hc)
                      · simp at hc
                        subst hc
                        exact ⟨CI.out, o1⟩
                    · exact HC.out.2.1 c (List.mem_of_mem_drop hc)
                  have CM := AR.chans HM3
                  rw [HL2.out] at CM
                  have CC := HC.out.below AR.2
                  have gsr := gs.below AR.2
                  have gst := gsr.take hkl
                  have hbr := hbw.trans (AR.2.mono hbw.size)
                  have OI : Obj wr ⟨I, 0, none⟩ := o1.below AR.2 o1.lt
                  obtain ⟨vT, eT⟩ : ∃ vT, vT = fnd x (cl.take j) := ⟨_, rfl⟩
                  obtain ⟨vM, eM⟩ : ∃ vM, vM = fnd x (cl.take j ++ [(x, I)] ++ cl.drop j) := ⟨_, rfl⟩
                  obtain ⟨vC, eC⟩ : ∃ vC, vC = fnd x cl := ⟨_, rfl⟩
                  obtain ⟨zM, eZ⟩ : ∃ zM, zM = fnd y (cl.take j ++ [(x, I)] ++ cl.drop j) := ⟨_, rfl⟩
                  obtain ⟨zC, eY⟩ : ∃ zC, zC = fnd y cl := ⟨_, rfl⟩
                  have F1 : Hid (vM = vT.or (some ⟨I, 0, none⟩)) := by show vM = vT.or (some ⟨I, 0, none⟩); rw [eM, eT]; exact ins_find j
                  have F2 : Hid (∀ p, vT = some p → vC = some p ∧ p ≠ ⟨I, 0, none⟩ ∧ Obj wr p) := by
                    intro p hp
                    rw [eT] at hp
                    refine ⟨by rw [eC]; exact ins_before j hp, ?_⟩
                    obtain ⟨c, hc, rfl, _⟩ := fnd_mem hp
                    have hc' := List.mem_of_mem_take hc
                    exact ⟨fun e => by have := HL.out c hc'; cases e; exact Nat.lt_irrefl _ this, (CC.2.1 c hc').2⟩
                  have F3 : Hid (x ≠ y → zM = zC) := fun hne => by rw [eZ, eY]; exact ins_other j hne
                  have F4 : Hid (vT.isSome = occ x (ss.take j)) := by show vT.isSome = occ x (ss.take j); rw [eT, fnd_occ, List.map_take, HF.out]
                  have EM : Hid (vM = fnd x (cl.take j ++ [(x, I)] ++ cl.drop j)) := eM
                  have EC : Hid (vC = fnd x cl) := eC
                  have EZ : Hid (zM = fnd y (cl.take j ++ [(x, I)] ++ cl.drop j)) := eZ
                  have EY : Hid (zC = fnd y cl) := eY
                  have HCM : Hid (IsChans wr (some ⟨w3.heap.size, 0, none⟩) (r + 1) (cl.take j ++ [(x, I)] ++ cl.drop j)) := CM
                  have HCC : Hid (IsChans wr (some ⟨R, 0, none⟩) r cl) := CC
                  clear eT eM eC eZ eY CM CC HM3 AR HC HL CI HF HLN HL2 gs gsr o1 hbw
                  go_wp2_with fail
                  go_at_call 15
                  refine (channel15 _ (some ⟨w3.heap.size, 0, none⟩) (r + 1) (r + 1) x _ _ (by go_simp) ((HCM.out.alloc _).alloc _) (by omega)).mono ?_
                  rintro e w6 ⟨rfl, rfl⟩
                  rw [← EM.out]
                  clear EM
                  go_wp2_with fail
                  have BEL : Hid (∀ A B, Below w.heap.size w ((wr.alloc A).alloc B)) := fun A B => hbr.trans ((below2 wr A B).mono hbr.size)
                  have O16 := fun A B => occurs16 a j cap x (ss.take j) _ (gst.below (below2 wr A B)) (by omega)
                  rw [← F4.out] at O16
                  clear gst hbr F4
                  cases vT with
                  | some p =>
                    obtain ⟨rfl, hne, op⟩ := F2.out p rfl
                    obtain rfl : vM = some p := F1.out
                    have heq : ∀ A B, (binOp .eql 44 (.pointer (some p)) (.pointer (some ⟨I, 0, none⟩))).run Try.prog ((wr.alloc A).alloc B) = .ok (.bool false) ((wr.alloc A).alloc B) := fun A B =>
                      eql44_other _ hne (op.below (below2 wr A B) op.lt) (OI.below (below2 wr A B) OI.lt)
                    clear F1 F2 hne op OI
                    go_at_call 16
                    refine (O16 _ _).mono ?_
                    clear O16
                    rintro e w6 ⟨rfl, rfl⟩
                    go_wp2_with fail
                    go_at_call 15
                    refine (channel15 _ (some ⟨R, 0, none⟩) r r x _ _ (by go_simp) ((HCC.out.alloc _).alloc _) (by omega)).mono ?_
                    rintro e w6 ⟨rfl, rfl⟩
                    rw [← EC.out]
                    by_cases hxy : y = x
                    · have e1 := str_eq hxy
                      have e2 := str_eq hxy.symm
                      clear hxy F3
                      go_wp2_with fail
                      go_ret
                      exact ⟨rfl, BEL.out _ _⟩
                    · have e1 := str_ne hxy
                      have e2 : zM = zC := F3.out (fun e => hxy e.symm)
                      have E2 : Hid (zM = zC) := e2
                      clear hxy F3 e2
                      go_wp2_with fail
                      go_at_call 15
                      refine (channel15 _ (some ⟨w3.heap.size, 0, none⟩) (r + 1) (r + 1) y _ _ (by go_simp) ((HCM.out.alloc _).alloc _) (by omega)).mono ?_
                      rintro e w6 ⟨rfl, rfl⟩
                      rw [← EZ.out]
                      rw [E2.out]
                      go_wp2_with fail
                      go_at_call 15
                      refine (channel15 _ (some ⟨R, 0, none⟩) r r y _ _ (by go_simp) ((HCC.out.alloc _).alloc _) (by omega)).mono ?_
                      rintro e w6 ⟨rfl, rfl⟩
                      rw [← EY.out]
                      go_wp2_with fail
                      go_ret
                      exact ⟨rfl, BEL.out _ _⟩
                  | none =>
                    obtain rfl : vM = some ⟨I, 0, none⟩ := F1.out
                    clear F1 F2 OI
                    go_at_call 16
                    refine (O16 _ _).mono ?_
                    clear O16
                    rintro e w6 ⟨rfl, rfl⟩
                    by_cases hxy : y = x
                    · have e1 := str_eq hxy
                      have e2 := str_eq hxy.symm
                      clear hxy F3
                      go_wp2_with fail
                      go_ret
                      exact ⟨rfl, BEL.out _ _⟩
                    · have e1 := str_ne hxy
                      have e2 : zM = zC := F3.out (fun e => hxy e.symm)
                      have E2 : Hid (zM = zC) := e2
                      clear hxy F3 e2
                      go_wp2_with fail
                      go_at_call 15
                      refine (channel15 _ (some ⟨w3.heap.size, 0, none⟩) (r + 1) (r + 1) y _ _ (by go_simp) ((HCM.out.alloc _).alloc _) (by omega)).mono ?_
                      rintro e w6 ⟨rfl, rfl⟩
                      rw [← EZ.out]
                      rw [E2.out]
                      go_wp2_with fail
                      go_at_call 15
                      refine (channel15 _ (some ⟨R, 0, none⟩) r r y _ _ (by go_simp) ((HCC.out.alloc _).alloc _) (by omega)).mono ?_
                      rintro e w6 ⟨rfl, rfl⟩
                      rw [← EY.out]
                      go_wp2_with fail
                      go_ret
                      exact ⟨rfl, BEL.out _ _⟩
        · go_wp2_with fail
          go_ret
          exact ⟨rfl, by assumption⟩
      · go_wp2_with fail
        go_ret
        exact ⟨rfl, by assumption⟩
    · go_wp2_with fail
      go_ret
      exact ⟨rfl, by assumption⟩
end Go.Proofs.Qxb6608823a
