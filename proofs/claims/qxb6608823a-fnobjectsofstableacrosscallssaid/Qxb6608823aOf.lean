/-
  'objectsOf', 'ZZobjectsOf', WALKED.
-/
import Derived.Test.Qxb6608823aObjs
namespace Go.Proofs.Qxb6608823a
open Go.ChangeShapes Go.WideShapes Go.ChangeAt Go.RowKit

set_option maxHeartbeats 400000 in
theorem of20_have (b n : Nat) (D : PD) (s : ByteArray) (w : World) (p : Addr) (hm : PM w b n D) (hs : s.size ≤ maxLen) (hp : pA D s = some p) :
    Calls Try.prog 20 #[.map (some b), .string s] w fun e w' => e = .returned (.pointer (some p)) ∧ w' = w := by
  have hr := hm.look hs
  rw [hp] at hr
  clear hm hp
  go_enter Try.func20, Try.ntmps20
  go_wp2
  go_ret
  exact ⟨rfl, rfl⟩

/-- What it leaves where there was none: a new object at that key. -/
def NewP (b n : Nat) (D : PD) (s : ByteArray) (w : World) (e : Ending) (w' : World) : Prop :=
  e = .returned (.pointer (some ⟨w.heap.size, 0, none⟩)) ∧ PM w' b (n + 1) (pPut D s (some ⟨w.heap.size, 0, none⟩)) ∧ w.grownBy w' (some b) ∧ Good w' (pPut D s (some ⟨w.heap.size, 0, none⟩))

set_option maxHeartbeats 400000 in
theorem of20_new (b n : Nat) (D : PD) (s : ByteArray) (w : World) (hm : PM w b n D) (hg : Good w D) (hs : s.size ≤ maxLen) (hn : n < maxLen) (hp : pA D s = none) :
    Calls Try.prog 20 #[.map (some b), .string s] w (NewP b n D s w) := by
  have hr := hm.look hs
  rw [hp] at hr
  have ha := World.grownBy_alloc w (Go.Obj.cells #[Value.slice none 0 0, Value.slice none 0 0, Value.slice none 0 0] 53) none
  have hm1 := hm.alloc (Go.Obj.cells #[Value.slice none 0 0, Value.slice none 0 0, Value.slice none 0 0] 53)
  obtain ⟨w1, r1, m1, g1, z1⟩ := hm1.store hn hs (some ⟨w.heap.size, 0, none⟩)
  have hr1 := m1.look hs
  rw [pA_put_same hm] at hr1
  have fresh : ∀ t, pA D t ≠ some ⟨w.heap.size, 0, none⟩ := fun t ht => Nat.lt_irrefl _ (hg.1 t _ ht).lt
  have G : Good w1 (pPut D s (some ⟨w.heap.size, 0, none⟩)) :=
    ((hg.kept ha (fun q _ => by simp)).put_new hm1 s (Obj.new w _ _) fresh).kept g1 (fun q hq e => hm1.apart hq (Option.some.inj e))
  have gg : w.grownBy w1 (some b) := by
    refine ⟨g1.os.trans ha.os, g1.tape.trans ha.tape, g1.output.trans ha.output, Nat.le_trans ha.size g1.size, fun k hk hne => ?_⟩
    exact (g1.block k (Nat.lt_of_lt_of_le hk ha.size) hne).trans (ha.block k hk (by simp))
  have N : NewP b n D s w (.returned (.pointer (some ⟨w.heap.size, 0, none⟩))) w1 := ⟨rfl, m1, gg, G⟩
  clear hm hp hm1 m1 g1 z1 fresh G gg ha hg
  go_enter Try.func20, Try.ntmps20
  go_wp2
  go_ret
  exact N

set_option maxHeartbeats 400000 in
theorem of11_have (b n : Nat) (D : PD) (s : ByteArray) (w : World) (p : Addr) (hm : PM w b n D) (hs : s.size ≤ maxLen) (hp : pA D s = some p) :
    Calls Try.prog 11 #[.map (some b), .string s] w fun e w' => e = .returned (.pointer (some p)) ∧ w' = w := by
  have H := of20_have b n D s w p hm hs hp
  clear hm hp
  go_enter Try.func11, Try.ntmps11
  go_wp2_with fail
  go_at_call 20
  refine H.mono ?_
  clear H
  rintro e w' ⟨rfl, rfl⟩
  go_wp2_with fail
  go_ret
  exact ⟨rfl, rfl⟩

set_option maxHeartbeats 400000 in
theorem of11_new (b n : Nat) (D : PD) (s : ByteArray) (w : World) (hm : PM w b n D) (hg : Good w D) (hs : s.size ≤ maxLen) (hn : n < maxLen) (hp : pA D s = none) :
    Calls Try.prog 11 #[.map (some b), .string s] w (NewP b n D s w) := by
  have H := of20_new b n D s w hm hg hs hn hp
  clear hm hp hg
  go_enter Try.func11, Try.ntmps11
  go_wp2_with fail
  go_at_call 20
  refine H.mono ?_
  clear H
  rintro e w' ⟨rfl, h⟩
  go_wp2_with fail
  go_ret
  exact ⟨rfl, h⟩
end Go.Proofs.Qxb6608823a
