/-
  WHAT THE WALKS SHARE: a slice of strings as they see it; a slice of bools; what a gate leaves. No walk here.
-/
import Derived.Test.Qxb6608823aRows
import Derived.WalkKit
import Derived.ProofKit
import Derived.SliceStrings
import Derived.Below
namespace Go.Proofs.Qxb6608823a
open Go.ChangeShapes Go.WideShapes Go.ChangeAt Go.RowKit

/-- A slice of strings as a walk sees it: its elements are 'ss'; where there is one, it lies in a row of memory. -/
def IsStrs (w : World) (a : Option Addr) (len : Nat) (ss : List ByteArray) : Prop :=
  ss.length = len ∧ len ≤ maxLen ∧ (∀ s ∈ ss, s.size ≤ maxLen) ∧
  (0 < len → ∃ b off, a = some ⟨b, off, none⟩ ∧ b < w.heap.size ∧ ∀ i, i < len → w.cell? ⟨b, off + i, none⟩ = some (.string (ss.getD i ByteArray.empty)))

theorem IsStrs.sz {w : World} {a : Option Addr} {len : Nat} {ss : List ByteArray} (h : IsStrs w a len ss) (i : Nat) : (ss.getD i ByteArray.empty).size ≤ maxLen := by
  by_cases hi : i < ss.length
  · have e : ss.getD i ByteArray.empty = ss[i] := by simp [List.getD, hi]
    rw [e]; exact h.2.2.1 _ (List.getElem_mem hi)
  · have e : ss.getD i ByteArray.empty = ByteArray.empty := by simp [List.getD, hi]
    rw [e]; exact Nat.zero_le _

/-- What is seen of it stays, where the old blocks stay. -/
theorem IsStrs.keep {w w' : World} {a : Option Addr} {len : Nat} {ss : List ByteArray} (h : IsStrs w a len ss) (hs : w.heap.size ≤ w'.heap.size)
    (hc : ∀ b o, b < w.heap.size → w'.cell? ⟨b, o, none⟩ = w.cell? ⟨b, o, none⟩) : IsStrs w' a len ss := by
  obtain ⟨h1, h2, h3, h4⟩ := h
  refine ⟨h1, h2, h3, fun hp => ?_⟩
  obtain ⟨b, off, e, hb, hcell⟩ := h4 hp
  exact ⟨b, off, e, by omega, fun i hi => by rw [hc _ _ hb]; exact hcell i hi⟩

theorem IsStrs.below {w w' : World} {a : Option Addr} {len : Nat} {ss : List ByteArray} (h : IsStrs w a len ss) (hb : Below w.heap.size w w') : IsStrs w' a len ss :=
  h.keep hb.size fun b o hlt => hb.cell (p := ⟨b, o, none⟩) hlt

theorem isStrs_nil {w : World} : IsStrs w none 0 [] := ⟨rfl, Nat.zero_le _, (fun _ h => absurd h List.not_mem_nil), fun h => absurd h (Nat.lt_irrefl _)⟩

theorem isStrs_open {w : World} {x : Addr} {l c : Nat} {ss : List ByteArray} (hl : l ≤ c) (hm : c ≤ maxLen) (hz : ss.length = c)
    (hcell : ∀ i, i < ss.length → w.cell? (x.add i) = some (.string (ss.getD i ByteArray.empty))) (hws : ∀ s ∈ ss, s.size ≤ maxLen) : IsStrs w (some x) l (ss.take l) := by
  refine ⟨by simp; omega, by omega, fun s hs => hws s (List.mem_of_mem_take hs), fun hp => ?_⟩
  obtain ⟨b, off, spot⟩ := x
  have h0 := hcell 0 (by omega)
  have hspot : spot = none := by simpa [Addr.add] using World.cell?_spot h0
  subst hspot
  have hlt : b < w.heap.size := by
    rcases Nat.lt_or_ge b w.heap.size with h | h
    · exact h
    · simp [World.cell?, Addr.add, Array.getElem?_eq_none h] at h0
  refine ⟨b, off, rfl, hlt, fun i hi => ?_⟩
  have := hcell i (by omega)
  rw [List.getD_eq_getElem?_getD, List.getElem?_take_of_lt hi, ← List.getD_eq_getElem?_getD]
  by_cases h0 : i = 0
  · subst h0; simpa [Addr.add] using this
  · simpa [Addr.add, h0] using this

/-- The block of a slice that is seen in w lies below w's end. -/
theorem IsStrs.apart {w : World} {a : Option Addr} {len : Nat} {ss : List ByteArray} (h : IsStrs w a len ss) {B : Nat} (hB : w.heap.size ≤ B) : ∀ b off, a = some ⟨b, off, none⟩ → 0 < len → b ≠ B := by
  intro b off ha hl
  obtain ⟨b', off', e, hb, _⟩ := h.2.2.2 hl
  rw [ha] at e
  cases e
  omega

/-- What is seen stays behind a take from another block. -/
theorem IsStrs.took {w w' : World} {a : Option Addr} {len : Nat} {ss : List ByteArray} {B : Nat} (h : IsStrs w a len ss) (hs : w'.heap.size = w.heap.size) (hB : ∀ b off, a = some ⟨b, off, none⟩ → 0 < len → b ≠ B)
    (hc : ∀ b o, b ≠ B → w'.cell? ⟨b, o, none⟩ = w.cell? ⟨b, o, none⟩) : IsStrs w' a len ss := by
  obtain ⟨h1, h2, h3, h4⟩ := h
  refine ⟨h1, h2, h3, fun hp => ?_⟩
  obtain ⟨b, off, e, hb, hcell⟩ := h4 hp
  exact ⟨b, off, e, by omega, fun i hi => by rw [hc _ _ (hB b off e hp)]; exact hcell i hi⟩

/-- A slice of bools as a walk sees it. -/
def IsBools (w : World) (a : Option Addr) (len : Nat) (bs : List Bool) : Prop :=
  bs.length = len ∧ len ≤ maxLen ∧
  (0 < len → ∃ b off, a = some ⟨b, off, none⟩ ∧ b < w.heap.size ∧ ∀ i, i < len → w.cell? ⟨b, off + i, none⟩ = some (.bool (bs.getD i false)))

theorem IsBools.below {w w' : World} {a : Option Addr} {len : Nat} {bs : List Bool} (h : IsBools w a len bs) (hb : Below w.heap.size w w') : IsBools w' a len bs := by
  obtain ⟨h1, h2, h4⟩ := h
  refine ⟨h1, h2, fun hp => ?_⟩
  obtain ⟨b, off, e, hlt, hcell⟩ := h4 hp
  exact ⟨b, off, e, Nat.lt_of_lt_of_le hlt hb.size, fun i hi => by rw [hb.cell (p := ⟨b, off + i, none⟩) hlt]; exact hcell i hi⟩

theorem str_eq {s t : ByteArray} (h : s = t) : (s.toList == t.toList) = true := by rw [h]; simp
theorem str_ne {s t : ByteArray} (h : s ≠ t) : (s.toList == t.toList) = false := by
  cases e : (s.toList == t.toList)
  · rfl
  · exfalso
    apply h
    have e := eq_of_beq e
    rw [ByteArray.toList_eq, ByteArray.toList_eq] at e
    cases s; cases t
    simp at e
    simp [e]

/-- Is the length small? -/
def Fits (len : Nat) : Prop := len ≤ 1048576
theorem Fits.le {len : Nat} (h : Fits len) : len ≤ 1048576 := h
theorem Fits.mk {len : Nat} (h : len ≤ 1048576) : Fits len := h

/-- What a gate leaves: a bool; nothing is written; where it says yes, S holds. -/
def GateP (S : Prop) (w : World) (e : Ending) (w' : World) : Prop := ∃ b : Bool, e = .returned (.bool b) ∧ w' = w ∧ (b = true → S)
theorem GateP.no {S : Prop} {w : World} : GateP S w (.returned (.bool false)) w := ⟨false, rfl, rfl, fun h => by cases h⟩
theorem GateP.yes {S : Prop} {w : World} (h : S) : GateP S w (.returned (.bool true)) w := ⟨true, rfl, rfl, fun _ => h⟩

theorem own : ownKnob Try.prog.godebug = none := by kernel_rfl
theorem laidOut : laidOutB Try.prog = true := by kernel_rfl

end Go.Proofs.Qxb6608823a
