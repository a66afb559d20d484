/-
  'zzCloneStrs', WALKED: the copy holds the same strings; nothing old is written.
-/
import Derived.Test.Qxb6608578aBase
import Derived.Laws.Cover3
namespace Go.Proofs.Qxb6608578a
open Go.ChangeShapes Go.WideShapes Go.ChangeAt Go.RowKit

theorem info9 : (Try.prog.info? 9).map (fun i => (i.zero, i.size, i.bytes)) = some (some (.string ByteArray.empty), 1, 16) := by kernel_rfl

theorem eql22 (w : World) (a : Option Addr) (l c : Nat) : (binOp .eql 22 (.slice a l c) (.slice none 0 0)).run Try.prog w = .ok (.bool a.isNone) w := by
  simp only [binOp]
  simp [run_equal_slice_nil w 22 9 a l c Try.underlying22]
attribute [local go_sem] eql22

theorem owns_lt {w : World} {base : Nat} {e : TypeId} {size g n cap : Nat} {xs : List Value} (h : w.ownsRow base e size (.slice (some ⟨g, 0, none⟩) n cap) n xs) : g < w.heap.size := by
  rcases h.2 with ⟨h', _⟩ | ⟨g', cap', cur, h', _, hg, _⟩
  · simp at h'
  · simp only [Value.slice.injEq, Option.some.injEq, Addr.mk.injEq, and_true, true_and] at h'
    obtain ⟨rfl, rfl⟩ := h'
    exact (Array.getElem?_eq_some_iff.1 hg).1

theorem isStrs_of_owns {w : World} {base g n cap : Nat} {xs : List Value} {ss : List ByteArray} (h : w.ownsRow base 9 1 (.slice (some ⟨g, 0, none⟩) n cap) n xs)
    (hx : ∀ j, j < n → xs[j]? = some (.string (ss.getD j ByteArray.empty))) (hl : ss.length = n) (hm : n ≤ maxLen) (hs : ∀ s ∈ ss, s.size ≤ maxLen) : IsStrs w (some ⟨g, 0, none⟩) n ss := by
  refine ⟨hl, hm, hs, fun _ => ⟨g, 0, rfl, owns_lt h, fun i hi => ?_⟩⟩
  rw [Nat.zero_add, h.cellAt i (by omega)]
  exact hx i hi

/-- One store more. -/
theorem set_step {xs : List Value} {ss : List ByteArray} {k : Nat} {s : ByteArray} (hlen : k < xs.length) (hx : ∀ j, j < k → xs[j]? = some (.string (ss.getD j ByteArray.empty))) (hs : s = ss.getD k ByteArray.empty) :
    ∀ j, j < k + 1 → (xs.set k (.string s))[j]? = some (.string (ss.getD j ByteArray.empty)) := by
  intro j hj
  by_cases e : j = k
  · subst e; rw [List.getElem?_set_self hlen, hs]
  · rw [List.getElem?_set_ne (by omega)]; exact hx j (by omega)

/-- What a copy leaves. -/
def CopyP (len : Nat) (ss : List ByteArray) (w : World) (e : Ending) (w' : World) : Prop :=
  ∃ a', e = .returned (.slice a' len len) ∧ IsStrs w' a' len ss ∧ Below w.heap.size w w' ∧ ∀ b off, a' = some ⟨b, off, none⟩ → w.heap.size ≤ b
theorem CopyP.mk {len : Nat} {ss : List ByteArray} {w w' : World} {a' : Option Addr} (h1 : IsStrs w' a' len ss) (h2 : Below w.heap.size w w') (h3 : ∀ b off, a' = some ⟨b, off, none⟩ → w.heap.size ≤ b) : CopyP len ss w (.returned (.slice a' len len)) w' := ⟨a', rfl, h1, h2, h3⟩

set_option maxHeartbeats 800000 in
theorem copy9 (a : Option Addr) (len cap : Nat) (ss : List ByteArray) (w : World) (h : IsStrs w a len ss) (hl : len ≤ 1048576) :
    Calls Try.prog 9 #[.slice a len cap] w (CopyP len ss w) := by
  have h0 := h
  obtain ⟨h1, h2, h3, h4⟩ := h
  obtain ⟨i0, hi, hz0, hz1, hz2⟩ := info_parts info9
  rcases a with _ | x
  · have hl0 : len = 0 := by
      rcases Nat.eq_zero_or_pos len with e | e
      · exact e
      · obtain ⟨b, off, e', _⟩ := h4 e; cases e'
    subst hl0
    go_enter Try.func9, Try.ntmps9
    go_wp2
    go_ret
    exact CopyP.mk h0 (Below.refl _ _) (fun b off e => by cases e)
  · clear h2
    go_enter Try.func9, Try.ntmps9
    go_wp2_with (at_make; refine wpList_make_full _ rfl _ _ 22 rfl w.heap.size 9 i0 (.string ByteArray.empty) 1 Try.underlying22 hi hz0 hz1 .i64 .i64 _ _ len rfl rfl rfl rfl (by rw [hz2]; omega) (by unfold maxLen; omega) (Nat.le_refl _) ?_; intro w1 hown hgrow)
    have hlen1 : (madeCells (Value.string ByteArray.empty).cells (len * 1)).toList.length = len := by simp [size_madeCells]
    obtain ⟨xs0, hxs0⟩ : ∃ xs0, xs0 = (madeCells (Value.string ByteArray.empty).cells (len * 1)).toList := ⟨_, rfl⟩
    rw [← hxs0] at hown hlen1
    clear hxs0
    have hB0 : Below w.heap.size w w1 := (Below.refl _ _).grown hgrow (Nat.le_refl _) (fun k hk => by cases hk)
    clear hgrow
    go_loopw [4] (fun i wr => ∃ (k : Nat) (xs : List Value), k ≤ len ∧ i = .int .i64 k ∧ xs.length = len ∧ wr.ownsRow w.heap.size 9 1 (.slice (some ⟨w.heap.size, 0, none⟩) len len) len xs ∧ (∀ j, j < k → xs[j]? = some (.string (ss.getD j ByteArray.empty))) ∧ Below w.heap.size w wr) (fun i _ => len - (intOf i).toNat)
    case atStart => exact ⟨0, xs0, Nat.zero_le _, rfl, hlen1, hown, fun j hj => by omega, hB0⟩
    case round =>
      obtain ⟨k, xs, hk, rfl, hxl, hownr, hpre, hbel⟩ := hrel
      clear hown hB0 hlen1
      by_cases hlt : k < len
      · obtain ⟨b, off, hx, hb, hcell⟩ := h4 (by omega)
        cases hx
        have hc : wr.cell? ⟨b, off + k, none⟩ = some (.string (ss.getD k ByteArray.empty)) := (hbel.cell (p := ⟨b, off + k, none⟩) hb).trans (hcell k hlt)
        have hd : wr.cell? ⟨w.heap.size, k, none⟩ = some xs[k] := by rw [hownr.cellAt k (by omega)]; simp
        have hf := hownr.frozenAt k
        obtain ⟨s, hs⟩ : ∃ s, s = ss.getD k ByteArray.empty := ⟨_, rfl⟩
        rw [← hs] at hc
        have HR := hownr.stored k (.string s)
        have HB : Below w.heap.size w (wr.setCell ⟨w.heap.size, k, none⟩ (.string s)) := hbel.setCell (Nat.le_refl _) _
        have HP := set_step (by omega) hpre hs
        clear hs hcell h4 hpre hownr hbel h0
        go_wp2
        go_roundw
        case rel => exact ⟨k + 1, xs.set k (.string s), by omega, by go_num, by simpa using hxl, HR.1, HP, HB⟩
        case measure => simp [intOf]; omega
      · go_wp2
        go_ret
        exact CopyP.mk (isStrs_of_owns hownr (fun j hj => hpre j (by omega)) h1 (by unfold maxLen; omega) h3) hbel (fun b off e => by cases e; exact Nat.le_refl _)
end Go.Proofs.Qxb6608578a
