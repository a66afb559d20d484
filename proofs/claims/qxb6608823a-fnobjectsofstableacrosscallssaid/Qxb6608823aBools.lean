/-
  A SLICE OF BOOLS AMONG THE ARGUMENTS, AS A WALK SEES IT.
-/
import Derived.Test.Qxb6608823aBase
import Derived.Deep.Grids
namespace Go.Proofs.Qxb6608823a
open Go.ChangeShapes Go.WideShapes Go.ChangeAt Go.RowKit

theorem isBools_nil {w : World} : IsBools w none 0 [] := ⟨rfl, Nat.zero_le _, fun h => absurd h (Nat.lt_irrefl _)⟩

theorem isBools_open {w : World} {x : Addr} {l c : Nat} {B : Nat → Bool} (hl : l ≤ c) (hm : c ≤ maxLen) (hcell : ∀ i, i < c → w.cell? (x.add i) = some (.bool (B i))) : IsBools w (some x) l ((List.range l).map B) := by
  refine ⟨by simp, by omega, fun hp => ?_⟩
  obtain ⟨b, off, spot⟩ := x
  have h0 := hcell 0 (by omega)
  have hspot : spot = none := by simpa [Addr.add] using World.cell?_spot h0
  subst hspot
  have hlt : b < w.heap.size := by
    rcases Nat.lt_or_ge b w.heap.size with h | h
    · exact h
    · simp [World.cell?, Addr.add, Array.getElem?_eq_none h] at h0
  refine ⟨b, off, rfl, hlt, fun i hi => ?_⟩
  have := hcell i (by omega)
  have e : ((List.range l).map B).getD i false = B i := by simp [List.getD, hi]
  rw [e]
  by_cases h0 : i = 0
  · subst h0; simpa [Addr.add] using this
  · simpa [Addr.add, h0] using this

theorem isBools_of_trod {H : Type} {enc : TypeId × Value → H} {w : World} {base fuel : Nat} {held : Bool} {a : Option Addr} {len cap : Nat} {x : DataW H × List MemPlace}
    (hf : DataW.trod enc Try.prog w base (fun _ => true) held fuel 23 (Value.slice a len cap).cells.toList = some x) : ∃ bs, IsBools w a len bs := by
  rcases Go.Deep.open_bools Try.underlying23 Try.underlying4 (by kernel_rfl) hf with ⟨hcs, _⟩ | ⟨x, l, c, B, hcs, _, hl, hm, _, hcell⟩
  · simp [Value.cells] at hcs
    obtain ⟨rfl, rfl, rfl⟩ := hcs
    exact ⟨[], isBools_nil⟩
  · simp [Value.cells] at hcs
    obtain ⟨rfl, rfl, rfl⟩ := hcs
    exact ⟨_, isBools_open hl hm hcell⟩
end Go.Proofs.Qxb6608823a
