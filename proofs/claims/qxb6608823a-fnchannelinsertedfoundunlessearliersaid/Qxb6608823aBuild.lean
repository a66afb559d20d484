/-
  'zzBuildChannels', WALKED.
-/
import Derived.Test.Qxb6608823aChans
namespace Go.Proofs.Qxb6608823a
open Go.ChangeShapes Go.WideShapes Go.ChangeAt Go.RowKit

theorem info44 : (Try.prog.info? 44).map (fun i => (i.zero, i.size, i.bytes)) = some (some (.pointer none), 1, 8) := by kernel_rfl

theorem Obj.setCell {w : World} {p a : Addr} (h : Obj w p) (hne : p.block ≠ a.block) (u : Value) : Obj (w.setCell a u) p := by
  obtain ⟨ca, ta, h⟩ := h
  exact ⟨ca, ta, by rw [Below.heap_setCell _ _ _ _ hne]; exact h⟩

theorem owns_lt {w : World} {base : Nat} {e : TypeId} {size g n cap : Nat} {xs : List Value} (h : w.ownsRow base e size (.slice (some ⟨g, 0, none⟩) n cap) n xs) : g < w.heap.size := by
  rcases h.2 with ⟨h', _⟩ | ⟨g', cap', cur, h', _, hg, _⟩
  · simp at h'
  · simp only [Value.slice.injEq, Option.some.injEq, Addr.mk.injEq, and_true, true_and] at h'
    obtain ⟨rfl, rfl⟩ := h'
    exact (Array.getElem?_eq_some_iff.1 hg).1

theorem cell_blk {w : World} {b b' o o' : Nat} {v : Value} (h : b' ≠ b) : (w.setCell ⟨b, o, none⟩ v).cell? ⟨b', o', none⟩ = w.cell? ⟨b', o', none⟩ :=
  World.cell?_setCell_other _ _ _ _ (fun e => h (by cases e; rfl))

theorem ChansAt.grown {w w' : World} {cl : List Ch} {row : Option Nat} (h : ChansAt w cl) (hg : w.grownBy w' row) (hr : ∀ c ∈ cl, some c.2 ≠ row) : ChansAt w' cl := by
  intro c hc
  obtain ⟨h1, h2⟩ := h c hc
  have hlt : c.2 < w.heap.size := h2.lt
  exact ⟨(World.cell?_of_block (a := ⟨c.2, 0, none⟩) (hg.block c.2 hlt (hr c hc))).trans h1, h2.grown hg (hr c hc)⟩

/-- The state at a round's head. -/
def Laid (ss : List ByteArray) (w : World) (len k : Nat) (wr : World) : Prop :=
  ∃ (xs : List Value) (cl : List Ch), xs.length = len ∧ cl.length = k ∧ wr.ownsRow w.heap.size 44 1 (.slice (some ⟨w.heap.size, 0, none⟩) len len) len xs ∧
    (∀ j, j < k → xs[j]? = some (.pointer (some ⟨(cl.getD j c0).2, 0, none⟩))) ∧ cl.map Prod.fst = ss.take k ∧ ChansAt wr cl ∧ (∀ c ∈ cl, w.heap.size < c.2) ∧ Below w.heap.size w wr

theorem Laid.bel {ss : List ByteArray} {w wr : World} {len k : Nat} (h : Laid ss w len k wr) : Below w.heap.size w wr := by
  obtain ⟨xs, cl, h1, h2, h3, h4, h5, h6, h7, h8⟩ := h
  exact h8

/-- One round: a channel is made and stored. -/
theorem Laid.step {ss : List ByteArray} {w wr w1 : World} {len k : Nat} (h : Laid ss w len k wr) (hk : k < len) (hl : ss.length = len) {s : ByteArray} (hs : s = ss.getD k ByteArray.empty)
    (c1 : w1.cell? ⟨wr.heap.size, 0, none⟩ = some (.string s)) (o1 : Obj w1 ⟨wr.heap.size, 0, none⟩) (g1 : wr.grownBy w1 none) :
    (∃ v, w1.cell? ⟨w.heap.size, k, none⟩ = some v) ∧ w1.frozen? ⟨w.heap.size, k, none⟩ = false ∧ Laid ss w len (k + 1) (w1.setCell ⟨w.heap.size, k, none⟩ (.pointer (some ⟨wr.heap.size, 0, none⟩))) := by
  obtain ⟨xs, cl, h1, h2, h3, h4, h5, h6, h7, h8⟩ := h
  have own1 := h3.kept g1 (Or.inr (by simp [Value.ownBlock]))
  have hwr : w.heap.size < wr.heap.size := owns_lt h3
  refine ⟨⟨xs[k], by rw [own1.cellAt k (by omega)]; simp⟩, own1.frozenAt k, xs.set k (.pointer (some ⟨wr.heap.size, 0, none⟩)), cl ++ [(s, wr.heap.size)], by simpa using h1, by simp [h2], (own1.stored k _).1, ?_, ?_, ?_, ?_, ?_⟩
  · intro j hj
    by_cases e : j = k
    · subst e
      rw [List.getElem?_set_self (by omega)]
      simp [List.getD, ← h2]
    · rw [List.getElem?_set_ne (by omega), h4 j (by omega)]
      have hj' : j < cl.length := by omega
      simp [List.getD, List.getElem?_append_left hj']
  · have hk' : k < ss.length := by omega
    have e : s = ss[k] := by rw [hs]; simp [List.getD, hk']
    rw [List.map_append, h5, List.take_succ_eq_append_getElem hk', e]
    rfl
  · intro c hc
    rcases List.mem_append.1 hc with hc | hc
    · have hne : c.2 ≠ w.heap.size := by have := h7 c hc; omega
      obtain ⟨q1, q2⟩ := (h6.grown g1 (fun c _ => by simp)) c hc
      exact ⟨(cell_blk hne).trans q1, q2.setCell (a := ⟨w.heap.size, k, none⟩) hne _⟩
    · simp at hc
      subst hc
      exact ⟨(cell_blk (by simp; omega)).trans c1, o1.setCell (by simp; omega) _⟩
  · intro c hc
    rcases List.mem_append.1 hc with hc | hc
    · exact h7 c hc
    · simp at hc
      subst hc
      exact hwr
  · exact ((h8.grown g1 h8.size (fun j hj => by cases hj))).setCell (Nat.le_refl _) _

/-- What 'zzBuildChannels' leaves. -/
def BuiltP (len : Nat) (ss : List ByteArray) (w : World) (e : Ending) (w' : World) : Prop :=
  ∃ (cl : List Ch), e = .returned (.slice (some ⟨w.heap.size, 0, none⟩) len len) ∧ IsChans w' (some ⟨w.heap.size, 0, none⟩) len cl ∧ cl.map Prod.fst = ss ∧ (∀ c ∈ cl, w.heap.size < c.2) ∧ Below w.heap.size w w'

theorem Laid.done {ss : List ByteArray} {w wr : World} {len : Nat} (h : Laid ss w len len wr) (hl : ss.length = len) : BuiltP len ss w (.returned (.slice (some ⟨w.heap.size, 0, none⟩) len len)) wr := by
  obtain ⟨xs, cl, h1, h2, h3, h4, h5, h6, h7, h8⟩ := h
  refine ⟨cl, rfl, ⟨h2, h6, fun _ => ⟨w.heap.size, 0, rfl, owns_lt h3, fun i hi => ?_⟩⟩, by rw [h5, List.take_of_length_le (by omega)], h7, h8⟩
  rw [Nat.zero_add, h3.cellAt i (by omega)]
  exact h4 i hi

set_option maxHeartbeats 800000 in
theorem build14 (a : Option Addr) (len cap : Nat) (ss : List ByteArray) (w : World) (h : IsStrs w a len ss) (hl : len ≤ 1048576) :
    Calls Try.prog 14 #[.slice a len cap] w (BuiltP len ss w) := by
  obtain ⟨h1, h2, h3, h4⟩ := h
  obtain ⟨i0, hi, hz0, hz1, hz2⟩ := info_parts info44
  have H1 : Hid (ss.length = len) := h1
  clear h1 h2 h3
  go_enter Try.func14, Try.ntmps14
  go_wp2_with (at_make; refine wpList_make_full _ rfl _ _ 35 rfl w.heap.size 44 i0 (.pointer none) 1 Try.underlying35 hi hz0 hz1 .i64 .i64 _ _ len rfl rfl rfl rfl (by rw [hz2]; omega) (by unfold maxLen; omega) (Nat.le_refl _) ?_; intro w1 hown hgrow)
  have L0 : Laid ss w len 0 w1 := ⟨_, [], by simp [size_madeCells], rfl, hown, fun j hj => absurd hj (Nat.not_lt_zero _), rfl, (fun c hc => absurd hc List.not_mem_nil), (fun c hc => absurd hc List.not_mem_nil), (Below.refl _ _).grown hgrow (Nat.le_refl _) (fun k hk => by cases hk)⟩
  clear hown hgrow
  go_loopw [4] (fun i wr => ∃ k : Nat, k ≤ len ∧ i = .int .i64 k ∧ Laid ss w len k wr) (fun i _ => len - (intOf i).toNat)
  case atStart => exact ⟨0, Nat.zero_le _, rfl, L0⟩
  case round =>
    obtain ⟨k, hk, rfl, L⟩ := hrel
    clear L0
    by_cases hlt : k < len
    · obtain ⟨b, off, rfl, hb, hcell⟩ := h4 (by omega)
      have hc : wr.cell? ⟨b, off + k, none⟩ = some (.string (ss.getD k ByteArray.empty)) := (L.bel.cell (p := ⟨b, off + k, none⟩) hb).trans (hcell k hlt)
      obtain ⟨s, hs⟩ : ∃ s, s = ss.getD k ByteArray.empty := ⟨_, rfl⟩
      rw [← hs] at hc
      have HS : Hid (s = ss.getD k ByteArray.empty) := hs
      clear hs hcell h4
      go_wp2_with fail
      go_at_call 19
      refine (new19 s _).mono ?_
      rintro e w2 ⟨rfl, c1, o1, z1, g1⟩
      obtain ⟨⟨v, hv⟩, hf, L2⟩ := L.step hlt H1.out HS.out c1 o1 g1
      clear c1 o1 z1 g1 L hc
      go_wp2_with fail
      go_roundw
      case rel => exact ⟨k + 1, by omega, by go_num, L2⟩
      case measure => simp [intOf]; omega
    · obtain rfl : k = len := by omega
      go_wp2
      go_ret
      exact L.done H1.out
end Go.Proofs.Qxb6608823a
