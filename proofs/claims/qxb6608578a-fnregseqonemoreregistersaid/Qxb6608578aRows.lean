/-
  No cell of these rows narrows 'for every input' (looked for: loops, veiled, ifaces, maps, wideKeys, modest, calm, conditions, laid).
  DERIVED. THE GIVEN ROWS OF THIS SEAT. 4 by the template 'for every input the law returns true; each argument reads behind the call as it read before'; 0 by the template 'total and deterministic' (their statements: Qxb6608578aTotals.lean).
  GIVEN WITH THE SEED: the statements are not yours to turn. If you find one false, say at which input.
  Laid BY PROGRAM, IN A SANDBOX (cutbox-rows.mjs): the forced cells as the released guide's own fill.sh prints them over the translation 6b7d400806f31117… (all of the seat's roots in one cut). By AI agents, Wed Nov 11 2026. No macro, syntax, notation, axiom, sorry.
-/
import Derived.Test.Qxb6608578aChecked
import GoSem.Claim
import GoSem.ClaimJoined
import GoSem.ClaimMapViews
import Derived.JoinedTies
import Derived.KernelRfl
namespace Go.Proofs.Qxb6608578a
/- THE CELL 'sum', in the pinned program and in every row, IS THE sha256 OF THE DUMP (.gsa) THAT Qxb6608578aProg.lean LOADS. Nothing in Lean hashes anything: it is a label: what it is worth is what the hold of that sum in a sandbox is worth. -/
noncomputable def Try.pinned : Pinned := { name := "qxb6608578a", sum := "6b7d400806f31117024c6c035029d3f217d0a54b54ea2accb42c8378848c7583", checked := Try.checked }
namespace Rows
def none {H : Type} : Left H := { results := [], args := [] }

/-- 'zzlaws_root_b1.FnRegSeqTakesByPosition': WHATEVER THE INPUT: true; the input reads as it did. -/
def fnRegSeqTakesByPositionSpec : ChangeSpec := { name := "fnRegSeqTakesByPosition", fn := fun _ => fun
  | [d1, d2, d3] => { results := [.lit (.bool true)], args := [d1, d2, d3] }
  | _ => none }
def fnRegSeqTakesByPositionRow : OpenClaim := { program := "qxb6608578a", sum := "6b7d400806f31117024c6c035029d3f217d0a54b54ea2accb42c8378848c7583", func := "example.com/regcall/regcall/zzlaws_root_b1.FnRegSeqTakesByPosition", spec := "fnRegSeqTakesByPosition", apart := false }
def FnRegSeqTakesByPositionSaid : Prop := fnRegSeqTakesByPositionRow.holds Try.pinned (OpenSpec.ofChange fnRegSeqTakesByPositionSpec)

/-- ITS FALSE NEIGHBOUR: 'it returns false'. Refute it at one input. -/
def fnRegSeqTakesByPositionWrong : ChangeSpec := { name := "fnRegSeqTakesByPosition", fn := fun _ => fun
  | [d1, d2, d3] => { results := [.lit (.bool false)], args := [d1, d2, d3] }
  | _ => none }
def FnRegSeqTakesByPositionWrongFalsely : Prop := fnRegSeqTakesByPositionRow.holds Try.pinned (OpenSpec.ofChange fnRegSeqTakesByPositionWrong)

/-- 'zzlaws_root_b1.FnRegSeqOneMoreRegister': WHATEVER THE INPUT: true; the input reads as it did. -/
def fnRegSeqOneMoreRegisterSpec : ChangeSpec := { name := "fnRegSeqOneMoreRegister", fn := fun _ => fun
  | [d1, d2] => { results := [.lit (.bool true)], args := [d1, d2] }
  | _ => none }
def fnRegSeqOneMoreRegisterRow : OpenClaim := { program := "qxb6608578a", sum := "6b7d400806f31117024c6c035029d3f217d0a54b54ea2accb42c8378848c7583", func := "example.com/regcall/regcall/zzlaws_root_b1.FnRegSeqOneMoreRegister", spec := "fnRegSeqOneMoreRegister", apart := false }
def FnRegSeqOneMoreRegisterSaid : Prop := fnRegSeqOneMoreRegisterRow.holds Try.pinned (OpenSpec.ofChange fnRegSeqOneMoreRegisterSpec)

/-- ITS FALSE NEIGHBOUR: 'it returns false'. Refute it at one input. -/
def fnRegSeqOneMoreRegisterWrong : ChangeSpec := { name := "fnRegSeqOneMoreRegister", fn := fun _ => fun
  | [d1, d2] => { results := [.lit (.bool false)], args := [d1, d2] }
  | _ => none }
def FnRegSeqOneMoreRegisterWrongFalsely : Prop := fnRegSeqOneMoreRegisterRow.holds Try.pinned (OpenSpec.ofChange fnRegSeqOneMoreRegisterWrong)

/-- 'zzlaws_root_b1.FnTakeGrantsHangOnCountAlone': WHATEVER THE INPUT: true; the input reads as it did. -/
def fnTakeGrantsHangOnCountAloneSpec : ChangeSpec := { name := "fnTakeGrantsHangOnCountAlone", fn := fun _ => fun
  | [d1, d2, d3, d4] => { results := [.lit (.bool true)], args := [d1, d2, d3, d4] }
  | _ => none }
def fnTakeGrantsHangOnCountAloneRow : OpenClaim := { program := "qxb6608578a", sum := "6b7d400806f31117024c6c035029d3f217d0a54b54ea2accb42c8378848c7583", func := "example.com/regcall/regcall/zzlaws_root_b1.FnTakeGrantsHangOnCountAlone", spec := "fnTakeGrantsHangOnCountAlone", apart := false }
def FnTakeGrantsHangOnCountAloneSaid : Prop := fnTakeGrantsHangOnCountAloneRow.holds Try.pinned (OpenSpec.ofChange fnTakeGrantsHangOnCountAloneSpec)

/-- ITS FALSE NEIGHBOUR: 'it returns false'. Refute it at one input. -/
def fnTakeGrantsHangOnCountAloneWrong : ChangeSpec := { name := "fnTakeGrantsHangOnCountAlone", fn := fun _ => fun
  | [d1, d2, d3, d4] => { results := [.lit (.bool false)], args := [d1, d2, d3, d4] }
  | _ => none }
def FnTakeGrantsHangOnCountAloneWrongFalsely : Prop := fnTakeGrantsHangOnCountAloneRow.holds Try.pinned (OpenSpec.ofChange fnTakeGrantsHangOnCountAloneWrong)

/-- 'zzlaws_root_b1.FnTakeNamesExtendedAtEnd': WHATEVER THE INPUT: true; the input reads as it did. -/
def fnTakeNamesExtendedAtEndSpec : ChangeSpec := { name := "fnTakeNamesExtendedAtEnd", fn := fun _ => fun
  | [d1, d2, d3, d4] => { results := [.lit (.bool true)], args := [d1, d2, d3, d4] }
  | _ => none }
def fnTakeNamesExtendedAtEndRow : OpenClaim := { program := "qxb6608578a", sum := "6b7d400806f31117024c6c035029d3f217d0a54b54ea2accb42c8378848c7583", func := "example.com/regcall/regcall/zzlaws_root_b1.FnTakeNamesExtendedAtEnd", spec := "fnTakeNamesExtendedAtEnd", apart := false }
def FnTakeNamesExtendedAtEndSaid : Prop := fnTakeNamesExtendedAtEndRow.holds Try.pinned (OpenSpec.ofChange fnTakeNamesExtendedAtEndSpec)

/-- ITS FALSE NEIGHBOUR: 'it returns false'. Refute it at one input. -/
def fnTakeNamesExtendedAtEndWrong : ChangeSpec := { name := "fnTakeNamesExtendedAtEnd", fn := fun _ => fun
  | [d1, d2, d3, d4] => { results := [.lit (.bool false)], args := [d1, d2, d3, d4] }
  | _ => none }
def FnTakeNamesExtendedAtEndWrongFalsely : Prop := fnTakeNamesExtendedAtEndRow.holds Try.pinned (OpenSpec.ofChange fnTakeNamesExtendedAtEndWrong)

end Rows
end Go.Proofs.Qxb6608578a
