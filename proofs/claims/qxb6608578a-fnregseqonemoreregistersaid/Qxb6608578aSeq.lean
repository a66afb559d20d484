/-
  'newRegSeq', 'ZZnewRegSeq', 'take', 'ZZtake', 'zzWant', WALKED.
-/
import Derived.Test.Qxb6608578aBase
import Derived.Deep.QuietTactic
import Derived.BigQuiet
import Derived.WalkSmall
namespace Go.Proofs.Qxb6608578a
open Go.ChangeShapes Go.WideShapes Go.ChangeAt Go.RowKit

/-! ### The plain functions: the i-th take of a fresh sequence -/
/-- The index that the sequence stands at ahead of the i-th take. -/
def nx (c : Int) (i : Nat) : Int := if 0 ≤ c ∧ c ≤ (i : Int) then c else i
/-- Is the i-th take granted? -/
def wB (c : Int) (i : Nat) : Bool := if 0 ≤ c ∧ c ≤ (i : Int) then false else true
/-- The name that the i-th take gives. -/
def wS (ss : List ByteArray) (c : Int) (i : Nat) : ByteArray := if 0 ≤ c ∧ c ≤ (i : Int) then ByteArray.empty else ss.getD i ByteArray.empty

theorem nx_zero (c : Int) : nx c 0 = 0 := by unfold nx; split <;> omega

/-- A register sequence in memory: block B holds its names, its count, the next free one. -/
def Seq (w : World) (B : Nat) (a : Option Addr) (len cap : Nat) (c n : Int) : Prop :=
  w.cell? ⟨B, 0, none⟩ = some (.slice a len cap) ∧ w.cell? ⟨B, 1, none⟩ = some (.int .i64 c) ∧ w.cell? ⟨B, 2, none⟩ = some (.int .i64 n) ∧ w.frozen? ⟨B, 2, none⟩ = false

theorem Seq.keep {w w' : World} {B : Nat} {a : Option Addr} {len cap : Nat} {c n : Int} (h : Seq w B a len cap c n) (hc : ∀ o, w'.cell? ⟨B, o, none⟩ = w.cell? ⟨B, o, none⟩) (hf : ∀ o, w'.frozen? ⟨B, o, none⟩ = w.frozen? ⟨B, o, none⟩) : Seq w' B a len cap c n := by
  obtain ⟨h0, h1, h2, h3⟩ := h
  exact ⟨by rw [hc]; exact h0, by rw [hc]; exact h1, by rw [hc]; exact h2, by rw [hf]; exact h3⟩

theorem Seq.below {w w' : World} {B N : Nat} {a : Option Addr} {len cap : Nat} {c n : Int} (h : Seq w B a len cap c n) (hb : Below N w w') (hN : B < N) : Seq w' B a len cap c n :=
  h.keep (fun o => hb.cell (p := ⟨B, o, none⟩) hN) (fun o => hb.frozen (p := ⟨B, o, none⟩) hN)

/-- What the making of a sequence leaves. -/
def NewP (a : Option Addr) (len cap : Nat) (c : Int) (w : World) (e : Ending) (w' : World) : Prop :=
  ∃ B, e = .returned (.pointer (some ⟨B, 0, none⟩)) ∧ w.heap.size ≤ B ∧ B < w'.heap.size ∧ Seq w' B a len cap c 0 ∧ Below w.heap.size w w'

theorem NewP.mk {a : Option Addr} {len cap : Nat} {c : Int} {w w1 : World} (hb : Below w.heap.size w w1) :
    NewP a len cap c w (.returned (.pointer (some ⟨w1.heap.size, 0, none⟩))) (w1.alloc (Obj.cells #[Value.slice a len cap, Value.int IntKind.i64 c, Value.int IntKind.i64 0] 34)) :=
  ⟨w1.heap.size, rfl, hb.size, by simp, ⟨by simp, by simp, by simp, by simp⟩, hb.alloc hb.size _⟩

set_option maxHeartbeats 400000 in
theorem new16 (a : Option Addr) (len cap : Nat) (c : Int) (w : World) :
    Calls Try.prog 16 #[.slice a len cap, .int .i64 c] w fun e w' => e = .returned (.agg #[.slice a len cap, .int .i64 c, .int .i64 0]) ∧ Below w.heap.size w w' := by
  go_enter Try.func16, Try.ntmps16
  go_wp2
  exact bodyPost_ret (v := .agg #[.slice a len cap, .int .i64 c, .int .i64 0]) (by simp [results, Try.results16, go_sem]) rfl ⟨rfl, (Below.refl _ _).alloc (Nat.le_refl _) _⟩

set_option maxHeartbeats 400000 in
theorem new10 (a : Option Addr) (len cap : Nat) (c : Int) (w : World) :
    Calls Try.prog 10 #[.slice a len cap, .int .i64 c] w (NewP a len cap c w) := by
  go_enter Try.func10, Try.ntmps10
  go_wp2_with (go_at_call 16; refine (new16 _ _ _ _ _).mono ?_; rintro e w1 ⟨rfl, hb⟩)
  go_ret
  exact NewP.mk hb

/-- What a take leaves: block B alone is written. -/
def TakeP (r : ByteArray) (ok : Bool) (n' : Int) (B : Nat) (a : Option Addr) (len cap : Nat) (c : Int) (w : World) (e : Ending) (w' : World) : Prop :=
  e = .returned (.tuple #[.string r, .bool ok]) ∧
  Seq w' B a len cap c n' ∧ w'.heap.size = w.heap.size ∧ (∀ b o, b ≠ B → w'.cell? ⟨b, o, none⟩ = w.cell? ⟨b, o, none⟩) ∧
  (∀ b o, w'.frozen? ⟨b, o, none⟩ = w.frozen? ⟨b, o, none⟩) ∧ Below B w w'

theorem TakeP.no {B : Nat} {a : Option Addr} {len cap : Nat} {c : Int} {w : World} {q : Nat} (h : Seq w B a len cap c c) :
    TakeP ByteArray.empty false c B a len cap c w (.returned (.tuple #[.string ByteArray.empty, .bool false])) (w.drewN q) :=
  ⟨rfl, h, rfl, fun _ _ _ => rfl, fun _ _ => rfl, below_drewN (Below.refl _ _) q⟩

theorem cell_off {w : World} {b o o' : Nat} {v : Value} (h : o ≠ o') : (w.setCell ⟨b, o, none⟩ v).cell? ⟨b, o', none⟩ = w.cell? ⟨b, o', none⟩ :=
  World.cell?_setCell_other _ _ _ _ (fun e => h (by cases e; rfl))
theorem cell_blk {w : World} {b b' o o' : Nat} {v : Value} (h : b' ≠ b) : (w.setCell ⟨b, o, none⟩ v).cell? ⟨b', o', none⟩ = w.cell? ⟨b', o', none⟩ :=
  World.cell?_setCell_other _ _ _ _ (fun e => h (by cases e; rfl))

theorem TakeP.yes {r : ByteArray} {B : Nat} {a : Option Addr} {len cap : Nat} {c n : Int} {w : World} {p q : Nat} (h : Seq w B a len cap c n) :
    TakeP r true (n + 1) B a len cap c w (.returned (.tuple #[.string r, .bool true])) (((w.drewN p).setCell ⟨B, 2, none⟩ (.int .i64 (n + 1))).drewN q) := by
  obtain ⟨h0, h1, h2, h3⟩ := h
  refine ⟨rfl, ⟨?_, ?_, ?_, ?_⟩, by simp, ?_, ?_, below_drewN ((below_drewN (Below.refl B w) p).setCell (p := ⟨B, 2, none⟩) (Nat.le_refl B) _) q⟩
  · rw [World.cell?_drewN, cell_off (by decide)]; exact h0
  · rw [World.cell?_drewN, cell_off (by decide)]; exact h1
  · exact World.cell?_setCell_same (w.drewN p) _ _ (u := .int .i64 n) h2
  · simpa using h3
  · intro b o hb
    rw [World.cell?_drewN, cell_blk hb]; rfl
  · intro b o
    simp

set_option maxHeartbeats 800000 in
theorem take17_no (B : Nat) (a : Option Addr) (len cap : Nat) (c : Int) (w : World) (hs : Seq w B a len cap c c) :
    Calls Try.prog 17 #[.pointer (some ⟨B, 0, none⟩)] w (TakeP ByteArray.empty false c B a len cap c w) := by
  have hs0 : Hid (Seq w B a len cap c c) := hs
  obtain ⟨c0, c1, c2, f2⟩ := hs
  go_enter Try.func17, Try.ntmps17
  go_wp2
  go_quiet (fail)
  go_wp2
  go_ret2
  exact TakeP.no hs0.out

set_option maxHeartbeats 800000 in
theorem take17_yes (ss : List ByteArray) (B : Nat) (a : Option Addr) (len cap : Nat) (c n : Int) (w : World) (hs : Seq w B a len cap c n) (h : IsStrs w a len ss)
    (h0 : 0 ≤ n) (h1 : n ≤ 1000000) (hl : len ≤ 1048576) (hB : ∀ b off, a = some ⟨b, off, none⟩ → 0 < len → b ≠ B) (hnc : ¬ n = c) :
    Calls Try.prog 17 #[.pointer (some ⟨B, 0, none⟩)] w (TakeP (ss.getD n.toNat ByteArray.empty) true (n + 1) B a len cap c w) := by
  have hs0 : Hid (Seq w B a len cap c n) := hs
  obtain ⟨c0, c1, c2, f2⟩ := hs
  obtain ⟨s1, s2, s3, s4⟩ := h
  have hne : (n == c) = false := by simpa using hnc
  by_cases hlt : n < len
  · obtain ⟨b, off, rfl, hb, hcell⟩ := s4 (by omega)
    have hc := hcell n.toNat (by omega)
    have hbB := hB b off rfl (by omega)
    obtain ⟨s, hs⟩ : ∃ s, s = ss.getD n.toNat ByteArray.empty := ⟨_, rfl⟩
    rw [← hs] at hc ⊢
    clear hcell s3 s4 hB s2 s1 hs
    go_enter Try.func17, Try.ntmps17
    go_wp2
    go_quiet (fail)
    go_wp2
    go_quiet (fail)
    go_wp2
    go_quiet (fail)
    go_wp2
    go_ret2
    rw [World.drewN_drewN]
    exact TakeP.yes hs0.out
  · have he : ss.getD n.toNat ByteArray.empty = ByteArray.empty := by simp [List.getD, show ss.length ≤ n.toNat by omega]
    rw [he]
    clear s2 s3 s4 hB he
    go_enter Try.func17, Try.ntmps17
    go_wp2
    go_quiet (fail)
    go_wp2
    go_quiet (fail)
    go_wp2
    go_ret2
    exact TakeP.yes hs0.out

theorem take17 (ss : List ByteArray) (B : Nat) (a : Option Addr) (len cap : Nat) (c : Int) (i : Nat) (w : World) (hs : Seq w B a len cap c (nx c i)) (h : IsStrs w a len ss)
    (h1 : i ≤ 65536) (hl : len ≤ 1048576) (hB : ∀ b off, a = some ⟨b, off, none⟩ → 0 < len → b ≠ B) :
    Calls Try.prog 17 #[.pointer (some ⟨B, 0, none⟩)] w (TakeP (wS ss c i) (wB c i) (nx c (i + 1)) B a len cap c w) := by
  by_cases hc : 0 ≤ c ∧ c ≤ (i : Int)
  · have e1 : nx c i = c := if_pos hc
    have e2 : nx c (i + 1) = c := if_pos ⟨hc.1, by omega⟩
    have e3 : wS ss c i = ByteArray.empty := if_pos hc
    have e4 : wB c i = false := if_pos hc
    rw [e1] at hs
    rw [e2, e3, e4]
    exact take17_no B a len cap c w hs
  · have e1 : nx c i = i := if_neg hc
    have e2 : nx c (i + 1) = (i : Int) + 1 := by
      unfold nx
      split <;> omega
    have e3 : wS ss c i = ss.getD (i : Int).toNat ByteArray.empty := if_neg hc
    have e4 : wB c i = true := if_neg hc
    rw [e1] at hs
    rw [e2, e3, e4]
    exact take17_yes ss B a len cap c i w hs h (by omega) (by omega) hl hB (by omega)

set_option maxHeartbeats 400000 in
theorem take11 (ss : List ByteArray) (B : Nat) (a : Option Addr) (len cap : Nat) (c : Int) (i : Nat) (w : World) (hs : Seq w B a len cap c (nx c i)) (h : IsStrs w a len ss)
    (h1 : i ≤ 65536) (hl : len ≤ 1048576) (hB : ∀ b off, a = some ⟨b, off, none⟩ → 0 < len → b ≠ B) :
    Calls Try.prog 11 #[.pointer (some ⟨B, 0, none⟩)] w (TakeP (wS ss c i) (wB c i) (nx c (i + 1)) B a len cap c w) := by
  have H := take17 ss B a len cap c i w hs h h1 hl hB
  clear hs h hB
  go_enter Try.func11, Try.ntmps11
  go_wp2_with (go_at_call 17; refine H.mono ?_; clear H; rintro e w1 ⟨rfl, hb⟩)
  go_ret2
  exact ⟨rfl, hb⟩

set_option maxHeartbeats 400000 in
theorem want12 (ss : List ByteArray) (a : Option Addr) (len cap : Nat) (c : Int) (i : Nat) (w : World) (h : IsStrs w a len ss) (h1 : i ≤ 65536) (hl : len ≤ 1048576) :
    Calls Try.prog 12 #[.slice a len cap, .int .i64 c, .int .i64 i] w fun e w' => e = .returned (.tuple #[.string (wS ss c i), .bool (wB c i)]) ∧ w' = w := by
  obtain ⟨s1, s2, s3, s4⟩ := h
  clear s2 s3
  by_cases hc : 0 ≤ c ∧ c ≤ (i : Int)
  · have e3 : wS ss c i = ByteArray.empty := if_pos hc
    have e4 : wB c i = false := if_pos hc
    rw [e3, e4]
    clear e3 e4 s4
    obtain ⟨hc0, hc1⟩ := hc
    go_enter Try.func12, Try.ntmps12
    go_wp2
    go_ret2
    exact ⟨rfl, rfl⟩
  · have e3 : wS ss c i = ss.getD i ByteArray.empty := if_neg hc
    have e4 : wB c i = true := if_neg hc
    rw [e3, e4]
    clear e3 e4
    by_cases hlt : i < len
    · obtain ⟨b, off, rfl, hb, hcell⟩ := s4 (by omega)
      have hcl := hcell i hlt
      obtain ⟨s, hs⟩ : ∃ s, s = ss.getD i ByteArray.empty := ⟨_, rfl⟩
      rw [← hs] at hcl ⊢
      clear hcell s4 hs
      by_cases hc0 : 0 ≤ c
      all_goals
        have hc1 : 0 ≤ c → (i : Int) < c := by omega
        clear hc
        go_enter Try.func12, Try.ntmps12
        go_wp2
        go_ret2
        exact ⟨rfl, rfl⟩
    · have he : ss.getD i ByteArray.empty = ByteArray.empty := by simp [List.getD, show ss.length ≤ i by omega]
      rw [he]
      clear s4 he
      by_cases hc0 : 0 ≤ c
      all_goals
        have hc1 : 0 ≤ c → (i : Int) < c := by omega
        clear hc
        go_enter Try.func12, Try.ntmps12
        go_wp2
        go_ret2
        exact ⟨rfl, rfl⟩
end Go.Proofs.Qxb6608578a
