/-
  A map[string]*T THAT THE CALL MAKES: the kit's 'ownsMap' over a reader of pointers; what it holds, as plain functions of the key; pointers compared. No walk here.
-/
import Derived.Test.Qxb6608823aBase
import Derived.Maps.OwnSet
import Derived.LaidEqlPtr
namespace Go.Proofs.Qxb6608823a
open Go.ChangeShapes Go.WideShapes Go.ChangeAt Go.RowKit
open Go.WideMaps (keyOf_string_mk)

/-! ### Pointers compared -/
section
variable {P : Program} (w : World)

theorem neq_of_eql {t : TypeId} {x y : Option Addr} {b : Bool} (h : (Op.equal t (.pointer x) (.pointer y)).run P w = .ok b w) : (binOp .neq t (.pointer x) (.pointer y)).run P w = .ok (.bool !b) w := by
  simp only [binOp]
  simp [h]
theorem eql_of_eql {t : TypeId} {x y : Option Addr} {b : Bool} (h : (Op.equal t (.pointer x) (.pointer y)).run P w = .ok b w) : (binOp .eql t (.pointer x) (.pointer y)).run P w = .ok (.bool b) w := by
  simp only [binOp]
  simp [h]

theorem equal_same {tp te : TypeId} {j : TypeInfo} (hp : P.underlying tp = some (.pointer te)) (hte : P.info? te = some j) (x : Option Addr) : (Op.equal tp (.pointer x) (.pointer x)).run P w = .ok true w := by
  have h : ∀ d : Nat, (Op.equalIn (d + 1) tp (.pointer x) (.pointer x)).run P w = .ok true w := fun d => by
    cases x <;> simp [Op.equalIn, run_underlying hp, sizeOf, typeInfo, hte, run_sameAddr_same]
  simp [Op.equal, Op.maxDepth, h 9999]

/-- Block of a plain object, no cell of it frozen. -/
def Obj (w : World) (p : Addr) : Prop := ∃ ca ta, w.heap[p.block]? = some (.cells ca ta (0, 0))

theorem equal_other {tp te : TypeId} {j : TypeInfo} (hp : P.underlying tp = some (.pointer te)) (hte : P.info? te = some j) (hsz : j.size ≠ 0) {a b : Addr} (hne : a ≠ b) (ha : Obj w a) (hb : Obj w b) :
    (Op.equal tp (.pointer (some a)) (.pointer (some b))).run P w = .ok false w := by
  obtain ⟨ca, ta, ha⟩ := ha
  obtain ⟨cb, tb, hb⟩ := hb
  have h : ∀ d : Nat, (Op.equalIn (d + 1) tp (.pointer (some a)) (.pointer (some b))).run P w = .ok false w := fun d => by
    simp [Op.equalIn, run_underlying hp, sizeOf, typeInfo, hte, hsz, run_sameAddr_other w hne ha hb]
  simp [Op.equal, Op.maxDepth, h 9999]

theorem equal_none_some {tp te : TypeId} (hp : P.underlying tp = some (.pointer te)) (b : Addr) : (Op.equal tp (.pointer none) (.pointer (some b))).run P w = .ok false w := by
  have h : ∀ d : Nat, (Op.equalIn (d + 1) tp (.pointer none) (.pointer (some b))).run P w = .ok false w := fun d => by
    simp [Op.equalIn, run_underlying hp]
  simp [Op.equal, Op.maxDepth, h 9999]
theorem equal_some_none {tp te : TypeId} (hp : P.underlying tp = some (.pointer te)) (b : Addr) : (Op.equal tp (.pointer (some b)) (.pointer none)).run P w = .ok false w := by
  have h : ∀ d : Nat, (Op.equalIn (d + 1) tp (.pointer (some b)) (.pointer none)).run P w = .ok false w := fun d => by
    simp [Op.equalIn, run_underlying hp]
  simp [Op.equal, Op.maxDepth, h 9999]
end

theorem Obj.grown {w w' : World} {row : Option Nat} {p : Addr} (h : Obj w p) (hg : w.grownBy w' row) (hr : some p.block ≠ row) : Obj w' p := by
  obtain ⟨ca, ta, h⟩ := h
  have hlt : p.block < w.heap.size := (Array.getElem?_eq_some_iff.1 h).1
  exact ⟨ca, ta, (hg.block _ hlt hr).trans h⟩
theorem Obj.lt {w : World} {p : Addr} (h : Obj w p) : p.block < w.heap.size := by
  obtain ⟨ca, ta, h⟩ := h
  exact (Array.getElem?_eq_some_iff.1 h).1
theorem Obj.new (w : World) (cs : Array Value) (t : TypeId) : Obj (w.alloc (.cells cs t)) ⟨w.heap.size, 0, none⟩ := ⟨cs, t, heap_alloc_new w _⟩

/-! ### What a map of pointers holds -/
abbrev PD := DataW (Option Addr)
def ptrElem : Value → Option (PD × List MemPlace)
  | .pointer p => some (.held p, [])
  | _ => none
theorem ptrElem_inv {v : Value} {z : PD × List MemPlace} (h : ptrElem v = some z) : ∃ p, v = .pointer p ∧ z = (.held p, []) := by
  cases v <;> simp [ptrElem] at h
  exact ⟨_, rfl, h.symm⟩

/-- The key as the reader has it. -/
def kL (s : ByteArray) : Lit := .string s.data.toList
theorem kL_key (s : ByteArray) : WideAt.IsKeyLit (kL s) := trivial
theorem kL_inj {s t : ByteArray} (h : kL s = kL t) : s = t := by
  cases s; cases t
  simp [kL] at h
  simp [h]

/-- The element at a key (nil where there is none); is the key there; how many keys there are; the map behind a store. -/
def pA (D : PD) (s : ByteArray) : Option Addr := match D.atKey (kL s) (.held none) with | .held p => p | _ => none
def pH (D : PD) (s : ByteArray) : Bool := Maps.has D (kL s)
def pN (D : PD) : Nat := Maps.size D
def pPut (D : PD) (s : ByteArray) (p : Option Addr) : PD := D.put (kL s) (.held p)

def PM (w : World) (b n : Nat) (D : PD) : Prop := w.ownsMap Try.prog 9 ptrElem b n D

theorem law : Maps.Keyed Try.prog 9 := Maps.string_keyed Try.underlying9
theorem zero30 (w : World) : (zeroValue 30).run Try.prog w = .ok (.pointer none) w := by kernel_rfl

section
variable {w : World} {b n : Nat} {D : PD}

theorem PM.atKey (h : PM w b n D) {s : ByteArray} (hs : s.size ≤ maxLen) : D.atKey (kL s) (.held none) = .held (pA D s) := by
  obtain ⟨v, ps, _, hR⟩ := World.ownsMap.lookup (z := .pointer none) (zd := .held none) (zp := []) h law Try.underlying27 (zero30 w) rfl (keyOf_string_mk Try.underlying9 hs)
  obtain ⟨p, _, hz⟩ := ptrElem_inv hR
  have e : D.atKey (kL s) (.held none) = .held p := congrArg Prod.fst hz
  rw [e]
  unfold pA
  rw [e]

theorem PM.look (h : PM w b n D) {s : ByteArray} (hs : s.size ≤ maxLen) : (Instr.lookup 27 (.map (some b)) (.string s) false).run Try.prog w = .ok (.pointer (pA D s)) w := by
  obtain ⟨v, ps, hrun, hR⟩ := World.ownsMap.lookup (z := .pointer none) (zd := .held none) (zp := []) h law Try.underlying27 (zero30 w) rfl (keyOf_string_mk Try.underlying9 hs)
  obtain ⟨p, rfl, hz⟩ := ptrElem_inv hR
  have e : D.atKey (kL s) (.held none) = .held p := congrArg Prod.fst hz
  have e2 : pA D s = p := by unfold pA; rw [e]
  rw [e2]
  exact hrun

theorem PM.look_ok (h : PM w b n D) {s : ByteArray} (hs : s.size ≤ maxLen) : (Instr.lookup 27 (.map (some b)) (.string s) true).run Try.prog w = .ok (.tuple #[.pointer (pA D s), .bool (pH D s)]) w := by
  obtain ⟨v, ps, hrun, hR⟩ := World.ownsMap.look_ok (z := .pointer none) (zd := .held none) (zp := []) h law Try.underlying27 (zero30 w) rfl (keyOf_string_mk Try.underlying9 hs)
  obtain ⟨p, rfl, hz⟩ := ptrElem_inv hR
  have e : D.atKey (kL s) (.held none) = .held p := congrArg Prod.fst hz
  have e2 : pA D s = p := by unfold pA; rw [e]
  rw [e2]
  exact hrun

theorem PM.len (h : PM w b n D) (ty : TypeId) : (Builtin.len_ #[27] ty #[.map (some b)]).run Try.prog w = .ok (.int .i64 (pN D)) w := World.ownsMap.len h Try.underlying27 ty

theorem PM.size_le (h : PM w b n D) : pN D ≤ n := World.ownsMap.size_le h

theorem PM.store (h : PM w b n D) (hn : n < maxLen) {s : ByteArray} (hs : s.size ≤ maxLen) (p : Option Addr) :
    ∃ w', (Instr.mapUpdate 27 (.map (some b)) (.string s) (.pointer p)).run Try.prog w = .ok () w' ∧ PM w' b (n + 1) (pPut D s p) ∧ w.grownBy w' (some b) ∧ w'.heap.size = w.heap.size := by
  obtain ⟨w', h1, h2, h3⟩ := World.ownsMap.store (d := .held p) (ps := []) h law Try.underlying27 hn (keyOf_string_mk Try.underlying9 hs) (val := .pointer p) rfl
  refine ⟨w', h1, h2, h3.grown, ?_⟩
  obtain ⟨es, clock, es', clock', _, rfl⟩ := h3
  simp [Go.ChangeMaps.setBlock]

theorem PM.kept {w' : World} {row : Option Nat} (h : PM w b n D) (hg : w.grownBy w' row) (hne : some b ≠ row) : PM w' b n D := World.ownsMap.kept h hg hne
theorem PM.alloc (h : PM w b n D) (o : Go.Obj) : PM (w.alloc o) b n D := World.ownsMap.alloc h o
theorem PM.mono (h : PM w b n D) {n' : Nat} (hn : n ≤ n') : PM w b n' D := World.ownsMap.mono h hn
theorem PM.lt (h : PM w b n D) : b < w.heap.size := World.ownsMap.lt h
theorem PM.made (w : World) : PM (w.alloc (.map #[] 0)) w.heap.size 0 (.map []) := World.ownsMap_made w Try.prog 9 ptrElem

/-- The map's own block is no object's. -/
theorem PM.apart (h : PM w b n D) {p : Addr} (hp : Obj w p) : p.block ≠ b := by
  obtain ⟨es, clock, hb, _⟩ := h
  obtain ⟨ca, ta, hc⟩ := hp
  intro e
  rw [e, hb] at hc
  cases hc

theorem PM.apart2 {b' n' : Nat} {D' : PD} (_ : PM w b n D) (_ : PM w b' n' D') (hne : b ≠ b') : some b ≠ some b' := fun e => hne (Option.some.inj e)

theorem pA_put_same (h : PM w b n D) (s : ByteArray) (p : Option Addr) : pA (pPut D s p) s = p := by
  unfold pA pPut
  rw [Maps.atKey_put_same (World.ownsMap.isMap h) (kL_key s)]
theorem pA_put_other {s t : ByteArray} (hne : t ≠ s) (p : Option Addr) : pA (pPut D s p) t = pA D t := by
  unfold pA pPut
  rw [Maps.atKey_put_other (fun e => hne (kL_inj e))]
theorem pH_put_same (h : PM w b n D) (s : ByteArray) (p : Option Addr) : pH (pPut D s p) s = true := by
  unfold pH pPut
  exact Maps.has_put_same (World.ownsMap.isMap h) (kL_key s) _
theorem pH_put_other {s t : ByteArray} (hne : t ≠ s) (p : Option Addr) : pH (pPut D s p) t = pH D t := by
  unfold pH pPut
  exact Maps.has_put_other (fun e => hne (kL_inj e)) _
theorem pN_put (h : PM w b n D) (s : ByteArray) (p : Option Addr) : pN (pPut D s p) = if pH D s then pN D else pN D + 1 := by
  unfold pN pPut pH
  exact Maps.size_put (World.ownsMap.tidy h law) _
theorem pH_of_pA {s : ByteArray} {p : Addr} (h : pA D s = some p) : pH D s = true := by
  cases e : pH D s
  · unfold pA at h
    rw [Maps.atKey_of_not_has e] at h
    cases h
  · rfl
end

/-- Every element is nil or leads to a plain object; no object lies at two keys. -/
def Good (w : World) (D : PD) : Prop := (∀ s p, pA D s = some p → Obj w p) ∧ ∀ s t p, pA D s = some p → pA D t = some p → s = t

theorem Good.empty (w : World) : Good w (.map []) := ⟨(fun s p h => by cases h), (fun s t p h => by cases h)⟩

theorem Good.kept {w w' : World} {row : Option Nat} {D : PD} (h : Good w D) (hg : w.grownBy w' row) (hr : ∀ p, Obj w p → some p.block ≠ row) : Good w' D :=
  ⟨fun s p hp => (h.1 s p hp).grown hg (hr p (h.1 s p hp)), h.2⟩

theorem Good.put_nil {w : World} {b n : Nat} {D : PD} (h : Good w D) (hm : PM w b n D) (s : ByteArray) : Good w (pPut D s none) := by
  have key : ∀ t p, pA (pPut D s none) t = some p → pA D t = some p := by
    intro t p ht
    by_cases e : t = s
    · subst e; rw [pA_put_same hm] at ht; cases ht
    · rwa [pA_put_other e] at ht
  exact ⟨fun t p ht => h.1 t p (key t p ht), fun t u p ht hu => h.2 t u p (key t p ht) (key u p hu)⟩

theorem Good.put_new {w : World} {b n : Nat} {D : PD} (h : Good w D) (hm : PM w b n D) (s : ByteArray) {p : Addr} (hp : Obj w p) (hfresh : ∀ t, pA D t ≠ some p) : Good w (pPut D s (some p)) := by
  have key : ∀ t q, pA (pPut D s (some p)) t = some q → (t = s ∧ q = p) ∨ (t ≠ s ∧ pA D t = some q) := by
    intro t q ht
    by_cases e : t = s
    · subst e; rw [pA_put_same hm] at ht; exact Or.inl ⟨rfl, (Option.some.inj ht).symm⟩
    · rw [pA_put_other e] at ht; exact Or.inr ⟨e, ht⟩
  refine ⟨fun t q ht => ?_, fun t u q ht hu => ?_⟩
  · rcases key t q ht with ⟨_, rfl⟩ | ⟨_, hq⟩
    · exact hp
    · exact h.1 t q hq
  · rcases key t q ht with ⟨e1, e2⟩ | ⟨_, hq⟩ <;> rcases key u q hu with ⟨e3, e4⟩ | ⟨_, hq'⟩
    · rw [e1, e3]
    · rw [e2] at hq'; exact absurd hq' (hfresh u)
    · rw [e4] at hq; exact absurd hq (hfresh t)
    · exact h.2 t u q hq hq'

/-! ### at type 30 (*plainObjects) -/
theorem info53 : ∃ j, Try.prog.info? 53 = some j ∧ j.size ≠ 0 := by
  have h : (Try.prog.info? 53).map (fun i => i.size) = some 3 := by kernel_rfl
  cases e : Try.prog.info? 53 with
  | none => rw [e] at h; cases h
  | some j => rw [e] at h; exact ⟨j, rfl, by simp at h; omega⟩
theorem eql30_same (w : World) (x : Option Addr) : (binOp .eql 30 (.pointer x) (.pointer x)).run Try.prog w = .ok (.bool true) w := by
  obtain ⟨j, hj, _⟩ := info53
  exact eql_of_eql w (equal_same w Try.underlying30 hj x)
theorem neq30_same (w : World) (x : Option Addr) : (binOp .neq 30 (.pointer x) (.pointer x)).run Try.prog w = .ok (.bool false) w := by
  obtain ⟨j, hj, _⟩ := info53
  exact neq_of_eql w (equal_same w Try.underlying30 hj x)
theorem eql30_other (w : World) {a b : Addr} (hne : a ≠ b) (ha : Obj w a) (hb : Obj w b) : (binOp .eql 30 (.pointer (some a)) (.pointer (some b))).run Try.prog w = .ok (.bool false) w := by
  obtain ⟨j, hj, hz⟩ := info53
  exact eql_of_eql w (equal_other w Try.underlying30 hj hz hne ha hb)
theorem eql30_none (w : World) (b : Addr) : (binOp .eql 30 (.pointer none) (.pointer (some b))).run Try.prog w = .ok (.bool false) w :=
  eql_of_eql w (equal_none_some w Try.underlying30 b)
end Go.Proofs.Qxb6608823a
