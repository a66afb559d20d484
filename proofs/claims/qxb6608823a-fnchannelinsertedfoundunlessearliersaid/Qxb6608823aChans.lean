/-
  CHANNELS: a slice of pointers to them as a walk sees it; 'zzOccurs', 'Channel.Name', 'ZZNewChannel', 'Package.Channel', WALKED.
-/
import Derived.Test.Qxb6608823aMap
namespace Go.Proofs.Qxb6608823a
open Go.ChangeShapes Go.WideShapes Go.ChangeAt Go.RowKit

/-! ### The plain functions -/
/-- A channel: its name, its block. -/
abbrev Ch := ByteArray × Nat
def at0 (c : Ch) : Addr := ⟨c.2, 0, none⟩
/-- The first channel of that name. -/
def fnd (x : ByteArray) : List Ch → Option Addr
  | [] => none
  | c :: r => if c.1.toList == x.toList then some (at0 c) else fnd x r
/-- Does the name occur? -/
def occ (x : ByteArray) : List ByteArray → Bool
  | [] => false
  | s :: r => if s.toList == x.toList then true else occ x r

theorem fnd_append (x : ByteArray) : ∀ l r : List Ch, fnd x (l ++ r) = (fnd x l).or (fnd x r)
  | [], r => rfl
  | c :: l, r => by
    simp only [List.cons_append, fnd]
    split
    · rfl
    · exact fnd_append x l r

theorem fnd_occ (x : ByteArray) : ∀ l : List Ch, (fnd x l).isSome = occ x (l.map Prod.fst)
  | [] => rfl
  | c :: l => by
    simp only [List.map_cons, fnd, occ]
    split
    · rfl
    · exact fnd_occ x l

theorem fnd_mem {x : ByteArray} {p : Addr} : ∀ {l : List Ch}, fnd x l = some p → ∃ c ∈ l, at0 c = p ∧ c.1 = x
  | [], h => by cases h
  | c :: l, h => by
    simp only [fnd] at h
    split at h
    · rename_i he
      refine ⟨c, by simp, Option.some.inj h, ?_⟩
      by_cases e : c.1 = x
      · exact e
      · rw [str_ne e] at he; cases he
    · obtain ⟨c', h1, h2⟩ := fnd_mem h
      exact ⟨c', by simp [h1], h2⟩

/-! ### A slice of channels -/
def c0 : Ch := (ByteArray.empty, 0)
/-- What is known of each channel. -/
def ChansAt (w : World) (cl : List Ch) : Prop := ∀ c ∈ cl, w.cell? ⟨c.2, 0, none⟩ = some (.string c.1) ∧ Obj w (at0 c)
def IsChans (w : World) (a : Option Addr) (len : Nat) (cl : List Ch) : Prop :=
  cl.length = len ∧ ChansAt w cl ∧ (0 < len → ∃ b off, a = some ⟨b, off, none⟩ ∧ b < w.heap.size ∧ ∀ i, i < len → w.cell? ⟨b, off + i, none⟩ = some (.pointer (some ⟨(cl.getD i c0).2, 0, none⟩)))

theorem getD_mem {cl : List Ch} {i : Nat} (h : i < cl.length) : cl.getD i c0 ∈ cl := by
  have e : cl.getD i c0 = cl[i] := by simp [List.getD, h]
  rw [e]; exact List.getElem_mem h
theorem drop_getD {cl : List Ch} {i : Nat} (h : i < cl.length) : cl.drop i = cl.getD i c0 :: cl.drop (i + 1) := by
  have e : cl.getD i c0 = cl[i] := by simp [List.getD, h]
  rw [e]; exact (List.drop_eq_getElem_cons h)

/-! ### at type 44 (*Channel) -/
theorem info59 : ∃ j, Try.prog.info? 59 = some j ∧ j.size ≠ 0 := by
  have h : (Try.prog.info? 59).map (fun i => i.size != 0) = some true := by kernel_rfl
  cases e : Try.prog.info? 59 with
  | none => rw [e] at h; cases h
  | some j => rw [e] at h; exact ⟨j, rfl, by simpa using h⟩
theorem eql44_same (w : World) (x : Option Addr) : (binOp .eql 44 (.pointer x) (.pointer x)).run Try.prog w = .ok (.bool true) w := by
  obtain ⟨j, hj, _⟩ := info59
  exact eql_of_eql w (equal_same w Try.underlying44 hj x)
theorem neq44_same (w : World) (x : Option Addr) : (binOp .neq 44 (.pointer x) (.pointer x)).run Try.prog w = .ok (.bool false) w := by
  obtain ⟨j, hj, _⟩ := info59
  exact neq_of_eql w (equal_same w Try.underlying44 hj x)
theorem eql44_other (w : World) {a b : Addr} (hne : a ≠ b) (ha : Obj w a) (hb : Obj w b) : (binOp .eql 44 (.pointer (some a)) (.pointer (some b))).run Try.prog w = .ok (.bool false) w := by
  obtain ⟨j, hj, hz⟩ := info59
  exact eql_of_eql w (equal_other w Try.underlying44 hj hz hne ha hb)

/-! ### The walks -/
set_option maxHeartbeats 400000 in
theorem occurs16 (a : Option Addr) (len cap : Nat) (x : ByteArray) (ss : List ByteArray) (w : World) (h : IsStrs w a len ss) (hl : len ≤ 1048576) :
    Calls Try.prog 16 #[.slice a len cap, .string x] w fun e w' => e = .returned (.bool (occ x ss)) ∧ w' = w := by
  obtain ⟨h1, h2, h3, h4⟩ := h
  clear h2 h3
  have drp : ∀ i, i < len → ss.drop i = ss.getD i ByteArray.empty :: ss.drop (i + 1) := fun i hi => by
    have hi' : i < ss.length := by omega
    have e : ss.getD i ByteArray.empty = ss[i] := by simp [List.getD, hi']
    rw [e]; exact List.drop_eq_getElem_cons hi'
  have HD : Hid (∀ i, i < len → ss.drop i = ss.getD i ByteArray.empty :: ss.drop (i + 1)) := drp
  have H1 : Hid (ss.length = len) := h1
  clear drp h1
  go_enter Try.func16, Try.ntmps16
  go_wp2
  go_loop [5] (fun i => ∃ k : Nat, k ≤ len ∧ i = .int .i64 k ∧ Hid (occ x (ss.drop k) = occ x ss)) (fun i => len - (intOf i).toNat)
  case atStart => exact ⟨0, Nat.zero_le _, rfl, rfl⟩
  case round =>
    obtain ⟨k, hk, rfl, HR⟩ := hrel
    by_cases hlt : k < len
    · obtain ⟨b, off, rfl, hb, hcell⟩ := h4 (by omega)
      have hc := hcell k hlt
      have hd := HD.out k hlt
      obtain ⟨s, hs⟩ : ∃ s, s = ss.getD k ByteArray.empty := ⟨_, rfl⟩
      rw [← hs] at hc hd
      have HD2 : Hid (ss.drop k = s :: ss.drop (k + 1)) := hd
      clear hs hcell h4 hd HD
      by_cases hsx : s = x
      · have e1 := str_eq hsx
        have e2 : occ x ss = true := by rw [← HR.out, HD2.out]; simp only [occ]; rw [e1]; rfl
        have E2 : Hid (occ x ss = true) := e2
        clear e2
        go_wp2
        go_ret
        exact ⟨by rw [E2.out]; rfl, rfl⟩
      · have e1 := str_ne hsx
        have e2 : Hid (occ x (ss.drop (k + 1)) = occ x ss) := by
          show occ x (ss.drop (k + 1)) = occ x ss
          rw [← HR.out, HD2.out]; simp only [occ]; rw [e1]; rfl
        clear hsx
        go_wp2
        go_round
        case rel => exact ⟨k + 1, by omega, by go_num, e2⟩
        case measure => simp [intOf]; omega
    · have e2 : occ x ss = false := by rw [← HR.out, List.drop_eq_nil_of_le (by rw [H1.out]; omega)]; rfl
      have E2 : Hid (occ x ss = false) := e2
      clear e2
      go_wp2
      go_ret
      exact ⟨by rw [E2.out]; rfl, rfl⟩

set_option maxHeartbeats 400000 in
theorem name17 (b : Nat) (s : ByteArray) (w : World) (h : w.cell? ⟨b, 0, none⟩ = some (.string s)) :
    Calls Try.prog 17 #[.pointer (some ⟨b, 0, none⟩)] w fun e w' => e = .returned (.string s) ∧ w' = w := by
  go_enter Try.func17, Try.ntmps17
  go_wp2
  go_ret
  exact ⟨rfl, rfl⟩

/-- What the making of a channel leaves. -/
def ChP (s : ByteArray) (w : World) (e : Ending) (w' : World) : Prop :=
  e = .returned (.pointer (some ⟨w.heap.size, 0, none⟩)) ∧ w'.cell? ⟨w.heap.size, 0, none⟩ = some (.string s) ∧ Obj w' ⟨w.heap.size, 0, none⟩ ∧ w'.heap.size = w.heap.size + 1 ∧ w.grownBy w' none
theorem ChP.mk (s : ByteArray) (w : World) (v1 v2 v3 v4 v5 : Value) : ChP s w (.returned (.pointer (some ⟨w.heap.size, 0, none⟩))) (w.alloc (.cells #[.string s, v1, v2, v3, v4, v5] 59)) :=
  ⟨rfl, by simp, Obj.new w _ _, by simp, World.grownBy_alloc w _ none⟩

set_option maxHeartbeats 400000 in
theorem new19 (s : ByteArray) (w : World) : Calls Try.prog 19 #[.string s] w (ChP s w) := by
  go_enter Try.func19, Try.ntmps19
  go_wp2
  go_ret
  exact ChP.mk s w _ _ _ _ _

set_option maxHeartbeats 400000 in
theorem channel15 (B : Nat) (a : Option Addr) (len cap : Nat) (x : ByteArray) (cl : List Ch) (w : World) (hp : w.cell? ⟨B, 4, none⟩ = some (.slice a len cap)) (h : IsChans w a len cl) (hl : len ≤ 1048577) :
    Calls Try.prog 15 #[.pointer (some ⟨B, 0, none⟩), .string x] w fun e w' => e = .returned (.pointer (fnd x cl)) ∧ w' = w := by
  obtain ⟨h1, h2, h4⟩ := h
  have H1 : Hid (cl.length = len) := h1
  have H2 : Hid (ChansAt w cl) := h2
  clear h1 h2
  go_enter Try.func15, Try.ntmps15
  go_wp2
  go_loop [12] (fun i => ∃ k : Nat, k ≤ len ∧ i = .int .i64 k ∧ Hid (fnd x (cl.drop k) = fnd x cl)) (fun i => len - (intOf i).toNat)
  case atStart => exact ⟨0, Nat.zero_le _, rfl, rfl⟩
  case round =>
    obtain ⟨k, hk, rfl, HR⟩ := hrel
    by_cases hlt : k < len
    · obtain ⟨b, off, rfl, hb, hcell⟩ := h4 (by omega)
      have hc := hcell k hlt
      have hkl : k < cl.length := by rw [H1.out]; exact hlt
      have hd := drop_getD hkl
      have hn := (H2.out _ (getD_mem hkl)).1
      obtain ⟨c, ec⟩ : ∃ c, c = cl.getD k c0 := ⟨_, rfl⟩
      rw [← ec] at hc hd hn
      obtain ⟨s, bb⟩ := c
      simp only at hc hn
      have HD2 : Hid (cl.drop k = (s, bb) :: cl.drop (k + 1)) := hd
      clear hcell h4 hd ec hkl
      by_cases hsx : s = x
      · have e1 := str_eq hsx
        have e2 : fnd x cl = some ⟨bb, 0, none⟩ := by rw [← HR.out, HD2.out]; simp only [fnd]; rw [e1]; rfl
        have E2 : Hid (fnd x cl = some ⟨bb, 0, none⟩) := e2
        clear e2
        go_wp2_with (go_at_call 17; refine (name17 bb s _ hn).mono ?_; rintro e w' ⟨rfl, rfl⟩)
        go_ret
        exact ⟨by rw [E2.out]; rfl, rfl⟩
      · have e1 := str_ne hsx
        have e2 : Hid (fnd x (cl.drop (k + 1)) = fnd x cl) := by
          show fnd x (cl.drop (k + 1)) = fnd x cl
          rw [← HR.out, HD2.out]; simp only [fnd]; rw [e1]; rfl
        clear hsx
        go_wp2_with (go_at_call 17; refine (name17 bb s _ hn).mono ?_; rintro e w' ⟨rfl, rfl⟩)
        go_round
        case rel => exact ⟨k + 1, by omega, by go_num, e2⟩
        case measure => simp [intOf]; omega
    · have e2 : fnd x cl = none := by rw [← HR.out, List.drop_eq_nil_of_le (by rw [H1.out]; omega)]; rfl
      have E2 : Hid (fnd x cl = none) := e2
      clear e2
      go_wp2
      go_ret
      exact ⟨by rw [E2.out]; rfl, rfl⟩
end Go.Proofs.Qxb6608823a
