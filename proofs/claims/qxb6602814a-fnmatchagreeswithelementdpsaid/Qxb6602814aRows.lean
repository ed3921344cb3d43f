/-
  No cell of these rows narrows 'for every input' (looked for: loops, veiled, ifaces, maps, wideKeys, modest, calm, conditions, laid).
  DERIVED. THE GIVEN ROWS OF THIS SEAT. 8 by the template 'for every input the law returns true; each argument reads behind the call as it read before'; 0 by the template 'total and deterministic' (their statements: Qxb6602814aTotals.lean).
  GIVEN WITH THE SEED: the statements are not yours to turn. If you find one false, say at which input.
  Laid BY PROGRAM, IN A SANDBOX (cutbox-rows.mjs): the forced cells as the released guide's own fill.sh prints them over the translation bdc14b600be3fbc3… (all of the seat's roots in one cut). By AI agents, Wed Nov 11 2026. No macro, syntax, notation, axiom, sorry.
-/
import Derived.Test.Qxb6602814aChecked
import GoSem.Claim
import GoSem.ClaimJoined
import GoSem.ClaimMapViews
import Derived.JoinedTies
import Derived.KernelRfl
namespace Go.Proofs.Qxb6602814a
/- THE CELL 'sum', in the pinned program and in every row, IS THE sha256 OF THE DUMP (.gsa) THAT Qxb6602814aProg.lean LOADS. Nothing in Lean hashes anything: it is a label: what it is worth is what the hold of that sum in a sandbox is worth. -/
noncomputable def Try.pinned : Pinned := { name := "qxb6602814a", sum := "bdc14b600be3fbc3c59d451762214c0a90dd19ace9855c18131d8bc83aed7cc2", checked := Try.checked }
namespace Rows
def none {H : Type} : Left H := { results := [], args := [] }

/-- 'zzlaws_pkg_glob_b1.FnMatchAgreesWithElementDP': WHATEVER THE INPUT: true; the input reads as it did. -/
def fnMatchAgreesWithElementDPSpec : ChangeSpec := { name := "fnMatchAgreesWithElementDP", fn := fun _ => fun
  | [d1, d2] => { results := [.lit (.bool true)], args := [d1, d2] }
  | _ => none }
def fnMatchAgreesWithElementDPRow : OpenClaim := { program := "qxb6602814a", sum := "bdc14b600be3fbc3c59d451762214c0a90dd19ace9855c18131d8bc83aed7cc2", func := "example.com/keyfold/keyfold/zzlaws_pkg_glob_b1.FnMatchAgreesWithElementDP", spec := "fnMatchAgreesWithElementDP", apart := false }
def FnMatchAgreesWithElementDPSaid : Prop := fnMatchAgreesWithElementDPRow.holds Try.pinned (OpenSpec.ofChange fnMatchAgreesWithElementDPSpec)

/-- ITS FALSE NEIGHBOUR: 'it returns false'. Refute it at one input. -/
def fnMatchAgreesWithElementDPWrong : ChangeSpec := { name := "fnMatchAgreesWithElementDP", fn := fun _ => fun
  | [d1, d2] => { results := [.lit (.bool false)], args := [d1, d2] }
  | _ => none }
def FnMatchAgreesWithElementDPWrongFalsely : Prop := fnMatchAgreesWithElementDPRow.holds Try.pinned (OpenSpec.ofChange fnMatchAgreesWithElementDPWrong)

/-- 'zzlaws_pkg_glob_b1.FnMatchEscapedLiteralIsEquality': WHATEVER THE INPUT: true; the input reads as it did. -/
def fnMatchEscapedLiteralIsEqualitySpec : ChangeSpec := { name := "fnMatchEscapedLiteralIsEquality", fn := fun _ => fun
  | [d1, d2] => { results := [.lit (.bool true)], args := [d1, d2] }
  | _ => none }
def fnMatchEscapedLiteralIsEqualityRow : OpenClaim := { program := "qxb6602814a", sum := "bdc14b600be3fbc3c59d451762214c0a90dd19ace9855c18131d8bc83aed7cc2", func := "example.com/keyfold/keyfold/zzlaws_pkg_glob_b1.FnMatchEscapedLiteralIsEquality", spec := "fnMatchEscapedLiteralIsEquality", apart := false }
def FnMatchEscapedLiteralIsEqualitySaid : Prop := fnMatchEscapedLiteralIsEqualityRow.holds Try.pinned (OpenSpec.ofChange fnMatchEscapedLiteralIsEqualitySpec)

/-- ITS FALSE NEIGHBOUR: 'it returns false'. Refute it at one input. -/
def fnMatchEscapedLiteralIsEqualityWrong : ChangeSpec := { name := "fnMatchEscapedLiteralIsEquality", fn := fun _ => fun
  | [d1, d2] => { results := [.lit (.bool false)], args := [d1, d2] }
  | _ => none }
def FnMatchEscapedLiteralIsEqualityWrongFalsely : Prop := fnMatchEscapedLiteralIsEqualityRow.holds Try.pinned (OpenSpec.ofChange fnMatchEscapedLiteralIsEqualityWrong)

/-- 'zzlaws_pkg_glob_b1.FnMatchStarPrefixWidens': WHATEVER THE INPUT: true; the input reads as it did. -/
def fnMatchStarPrefixWidensSpec : ChangeSpec := { name := "fnMatchStarPrefixWidens", fn := fun _ => fun
  | [d1, d2, d3] => { results := [.lit (.bool true)], args := [d1, d2, d3] }
  | _ => none }
def fnMatchStarPrefixWidensRow : OpenClaim := { program := "qxb6602814a", sum := "bdc14b600be3fbc3c59d451762214c0a90dd19ace9855c18131d8bc83aed7cc2", func := "example.com/keyfold/keyfold/zzlaws_pkg_glob_b1.FnMatchStarPrefixWidens", spec := "fnMatchStarPrefixWidens", apart := false }
def FnMatchStarPrefixWidensSaid : Prop := fnMatchStarPrefixWidensRow.holds Try.pinned (OpenSpec.ofChange fnMatchStarPrefixWidensSpec)

/-- ITS FALSE NEIGHBOUR: 'it returns false'. Refute it at one input. -/
def fnMatchStarPrefixWidensWrong : ChangeSpec := { name := "fnMatchStarPrefixWidens", fn := fun _ => fun
  | [d1, d2, d3] => { results := [.lit (.bool false)], args := [d1, d2, d3] }
  | _ => none }
def FnMatchStarPrefixWidensWrongFalsely : Prop := fnMatchStarPrefixWidensRow.holds Try.pinned (OpenSpec.ofChange fnMatchStarPrefixWidensWrong)

/-- 'zzlaws_pkg_glob_b1.FnMatchOneSpanIgnoresTheByte': WHATEVER THE INPUT: true; the input reads as it did. -/
def fnMatchOneSpanIgnoresTheByteSpec : ChangeSpec := { name := "fnMatchOneSpanIgnoresTheByte", fn := fun _ => fun
  | [d1, d2, d3, d4] => { results := [.lit (.bool true)], args := [d1, d2, d3, d4] }
  | _ => none }
def fnMatchOneSpanIgnoresTheByteRow : OpenClaim := { program := "qxb6602814a", sum := "bdc14b600be3fbc3c59d451762214c0a90dd19ace9855c18131d8bc83aed7cc2", func := "example.com/keyfold/keyfold/zzlaws_pkg_glob_b1.FnMatchOneSpanIgnoresTheByte", spec := "fnMatchOneSpanIgnoresTheByte", apart := false }
def FnMatchOneSpanIgnoresTheByteSaid : Prop := fnMatchOneSpanIgnoresTheByteRow.holds Try.pinned (OpenSpec.ofChange fnMatchOneSpanIgnoresTheByteSpec)

/-- ITS FALSE NEIGHBOUR: 'it returns false'. Refute it at one input. -/
def fnMatchOneSpanIgnoresTheByteWrong : ChangeSpec := { name := "fnMatchOneSpanIgnoresTheByte", fn := fun _ => fun
  | [d1, d2, d3, d4] => { results := [.lit (.bool false)], args := [d1, d2, d3, d4] }
  | _ => none }
def FnMatchOneSpanIgnoresTheByteWrongFalsely : Prop := fnMatchOneSpanIgnoresTheByteRow.holds Try.pinned (OpenSpec.ofChange fnMatchOneSpanIgnoresTheByteWrong)

/-- 'zzlaws_pkg_glob_b1.FnMatchOneReadsOnlyItsElement': WHATEVER THE INPUT: true; the input reads as it did. -/
def fnMatchOneReadsOnlyItsElementSpec : ChangeSpec := { name := "fnMatchOneReadsOnlyItsElement", fn := fun _ => fun
  | [d1, d2, d3] => { results := [.lit (.bool true)], args := [d1, d2, d3] }
  | _ => none }
def fnMatchOneReadsOnlyItsElementRow : OpenClaim := { program := "qxb6602814a", sum := "bdc14b600be3fbc3c59d451762214c0a90dd19ace9855c18131d8bc83aed7cc2", func := "example.com/keyfold/keyfold/zzlaws_pkg_glob_b1.FnMatchOneReadsOnlyItsElement", spec := "fnMatchOneReadsOnlyItsElement", apart := false }
def FnMatchOneReadsOnlyItsElementSaid : Prop := fnMatchOneReadsOnlyItsElementRow.holds Try.pinned (OpenSpec.ofChange fnMatchOneReadsOnlyItsElementSpec)

/-- ITS FALSE NEIGHBOUR: 'it returns false'. Refute it at one input. -/
def fnMatchOneReadsOnlyItsElementWrong : ChangeSpec := { name := "fnMatchOneReadsOnlyItsElement", fn := fun _ => fun
  | [d1, d2, d3] => { results := [.lit (.bool false)], args := [d1, d2, d3] }
  | _ => none }
def FnMatchOneReadsOnlyItsElementWrongFalsely : Prop := fnMatchOneReadsOnlyItsElementRow.holds Try.pinned (OpenSpec.ofChange fnMatchOneReadsOnlyItsElementWrong)

/-- 'zzlaws_pkg_glob_b1.FnInSetAgreesWithTokenModel': WHATEVER THE INPUT: true; the input reads as it did. -/
def fnInSetAgreesWithTokenModelSpec : ChangeSpec := { name := "fnInSetAgreesWithTokenModel", fn := fun _ => fun
  | [d1, d2, d3] => { results := [.lit (.bool true)], args := [d1, d2, d3] }
  | _ => none }
def fnInSetAgreesWithTokenModelRow : OpenClaim := { program := "qxb6602814a", sum := "bdc14b600be3fbc3c59d451762214c0a90dd19ace9855c18131d8bc83aed7cc2", func := "example.com/keyfold/keyfold/zzlaws_pkg_glob_b1.FnInSetAgreesWithTokenModel", spec := "fnInSetAgreesWithTokenModel", apart := false }
def FnInSetAgreesWithTokenModelSaid : Prop := fnInSetAgreesWithTokenModelRow.holds Try.pinned (OpenSpec.ofChange fnInSetAgreesWithTokenModelSpec)

/-- ITS FALSE NEIGHBOUR: 'it returns false'. Refute it at one input. -/
def fnInSetAgreesWithTokenModelWrong : ChangeSpec := { name := "fnInSetAgreesWithTokenModel", fn := fun _ => fun
  | [d1, d2, d3] => { results := [.lit (.bool false)], args := [d1, d2, d3] }
  | _ => none }
def FnInSetAgreesWithTokenModelWrongFalsely : Prop := fnInSetAgreesWithTokenModelRow.holds Try.pinned (OpenSpec.ofChange fnInSetAgreesWithTokenModelWrong)

/-- 'zzlaws_pkg_glob_b1.FnInSetCaretInverts': WHATEVER THE INPUT: true; the input reads as it did. -/
def fnInSetCaretInvertsSpec : ChangeSpec := { name := "fnInSetCaretInverts", fn := fun _ => fun
  | [d1, d2, d3] => { results := [.lit (.bool true)], args := [d1, d2, d3] }
  | _ => none }
def fnInSetCaretInvertsRow : OpenClaim := { program := "qxb6602814a", sum := "bdc14b600be3fbc3c59d451762214c0a90dd19ace9855c18131d8bc83aed7cc2", func := "example.com/keyfold/keyfold/zzlaws_pkg_glob_b1.FnInSetCaretInverts", spec := "fnInSetCaretInverts", apart := false }
def FnInSetCaretInvertsSaid : Prop := fnInSetCaretInvertsRow.holds Try.pinned (OpenSpec.ofChange fnInSetCaretInvertsSpec)

/-- ITS FALSE NEIGHBOUR: 'it returns false'. Refute it at one input. -/
def fnInSetCaretInvertsWrong : ChangeSpec := { name := "fnInSetCaretInverts", fn := fun _ => fun
  | [d1, d2, d3] => { results := [.lit (.bool false)], args := [d1, d2, d3] }
  | _ => none }
def FnInSetCaretInvertsWrongFalsely : Prop := fnInSetCaretInvertsRow.holds Try.pinned (OpenSpec.ofChange fnInSetCaretInvertsWrong)

/-- 'zzlaws_pkg_glob_b1.FnInSetShapeOfAnswer': WHATEVER THE INPUT: true; the input reads as it did. -/
def fnInSetShapeOfAnswerSpec : ChangeSpec := { name := "fnInSetShapeOfAnswer", fn := fun _ => fun
  | [d1, d2, d3, d4] => { results := [.lit (.bool true)], args := [d1, d2, d3, d4] }
  | _ => none }
def fnInSetShapeOfAnswerRow : OpenClaim := { program := "qxb6602814a", sum := "bdc14b600be3fbc3c59d451762214c0a90dd19ace9855c18131d8bc83aed7cc2", func := "example.com/keyfold/keyfold/zzlaws_pkg_glob_b1.FnInSetShapeOfAnswer", spec := "fnInSetShapeOfAnswer", apart := false }
def FnInSetShapeOfAnswerSaid : Prop := fnInSetShapeOfAnswerRow.holds Try.pinned (OpenSpec.ofChange fnInSetShapeOfAnswerSpec)

/-- ITS FALSE NEIGHBOUR: 'it returns false'. Refute it at one input. -/
def fnInSetShapeOfAnswerWrong : ChangeSpec := { name := "fnInSetShapeOfAnswer", fn := fun _ => fun
  | [d1, d2, d3, d4] => { results := [.lit (.bool false)], args := [d1, d2, d3, d4] }
  | _ => none }
def FnInSetShapeOfAnswerWrongFalsely : Prop := fnInSetShapeOfAnswerRow.holds Try.pinned (OpenSpec.ofChange fnInSetShapeOfAnswerWrong)

end Rows
end Go.Proofs.Qxb6602814a
