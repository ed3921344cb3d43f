/-
  No cell of these rows narrows 'for every input' (looked for: loops, veiled, ifaces, maps, wideKeys, modest, calm, conditions, laid).
  DERIVED. THE GIVEN ROWS OF THIS SEAT. 5 by the template 'for every input the law returns true; each argument reads behind the call as it read before'; 0 by the template 'total and deterministic' (their statements: Qxb6603276aRTotals.lean).
  GIVEN WITH THE SEED: the statements are not yours to turn. If you find one false, say at which input.
  Laid BY PROGRAM, IN A SANDBOX (cutbox-rows.mjs): the forced cells as the released guide's own fill.sh prints them over the translation a3289236865a2b59… (all of the seat's roots in one cut). By AI agents, Wed Nov 11 2026. No macro, syntax, notation, axiom, sorry.
-/
import Derived.Test.Qxb6603276aRChecked
import GoSem.Claim
import GoSem.ClaimJoined
import GoSem.ClaimMapViews
import Derived.JoinedTies
import Derived.KernelRfl
namespace Go.Proofs.Qxb6603276aR
/- THE CELL 'sum', in the pinned program and in every row, IS THE sha256 OF THE DUMP (.gsa) THAT Qxb6603276aRProg.lean LOADS. Nothing in Lean hashes anything: it is a label: what it is worth is what the hold of that sum in a sandbox is worth. -/
noncomputable def Try.pinned : Pinned := { name := "qxb6603276ar", sum := "a3289236865a2b59998a4e0e9e6ba8e8e465aa01d30d02e94485912b15b4d39d", checked := Try.checked }
namespace Rows
def none {H : Type} : Left H := { results := [], args := [] }

/-- 'zzlaws_internal_model_b1.FnFindMatchesModel': WHATEVER THE INPUT: true; the input reads as it did. -/
def fnFindMatchesModelSpec : ChangeSpec := { name := "fnFindMatchesModel", fn := fun _ => fun
  | [d1, d2, d3] => { results := [.lit (.bool true)], args := [d1, d2, d3] }
  | _ => none }
def fnFindMatchesModelRow : OpenClaim := { program := "qxb6603276ar", sum := "a3289236865a2b59998a4e0e9e6ba8e8e465aa01d30d02e94485912b15b4d39d", func := "example.com/annal/annal/zzlaws_internal_model_b1.FnFindMatchesModel", spec := "fnFindMatchesModel", apart := false }
def FnFindMatchesModelSaid : Prop := fnFindMatchesModelRow.holds Try.pinned (OpenSpec.ofChange fnFindMatchesModelSpec)

/-- ITS FALSE NEIGHBOUR: 'it returns false'. Refute it at one input. -/
def fnFindMatchesModelWrong : ChangeSpec := { name := "fnFindMatchesModel", fn := fun _ => fun
  | [d1, d2, d3] => { results := [.lit (.bool false)], args := [d1, d2, d3] }
  | _ => none }
def FnFindMatchesModelWrongFalsely : Prop := fnFindMatchesModelRow.holds Try.pinned (OpenSpec.ofChange fnFindMatchesModelWrong)

/-- 'zzlaws_internal_model_b1.FnFindAgainChangesNothing': WHATEVER THE INPUT: true; the input reads as it did. -/
def fnFindAgainChangesNothingSpec : ChangeSpec := { name := "fnFindAgainChangesNothing", fn := fun _ => fun
  | [d1, d2, d3] => { results := [.lit (.bool true)], args := [d1, d2, d3] }
  | _ => none }
def fnFindAgainChangesNothingRow : OpenClaim := { program := "qxb6603276ar", sum := "a3289236865a2b59998a4e0e9e6ba8e8e465aa01d30d02e94485912b15b4d39d", func := "example.com/annal/annal/zzlaws_internal_model_b1.FnFindAgainChangesNothing", spec := "fnFindAgainChangesNothing", apart := false }
def FnFindAgainChangesNothingSaid : Prop := fnFindAgainChangesNothingRow.holds Try.pinned (OpenSpec.ofChange fnFindAgainChangesNothingSpec)

/-- ITS FALSE NEIGHBOUR: 'it returns false'. Refute it at one input. -/
def fnFindAgainChangesNothingWrong : ChangeSpec := { name := "fnFindAgainChangesNothing", fn := fun _ => fun
  | [d1, d2, d3] => { results := [.lit (.bool false)], args := [d1, d2, d3] }
  | _ => none }
def FnFindAgainChangesNothingWrongFalsely : Prop := fnFindAgainChangesNothingRow.holds Try.pinned (OpenSpec.ofChange fnFindAgainChangesNothingWrong)

/-- 'zzlaws_internal_model_b1.FnNextPairLandsOnAState': WHATEVER THE INPUT: true; the input reads as it did. -/
def fnNextPairLandsOnAStateSpec : ChangeSpec := { name := "fnNextPairLandsOnAState", fn := fun _ => fun
  | [d1, d2, d3] => { results := [.lit (.bool true)], args := [d1, d2, d3] }
  | _ => none }
def fnNextPairLandsOnAStateRow : OpenClaim := { program := "qxb6603276ar", sum := "a3289236865a2b59998a4e0e9e6ba8e8e465aa01d30d02e94485912b15b4d39d", func := "example.com/annal/annal/zzlaws_internal_model_b1.FnNextPairLandsOnAState", spec := "fnNextPairLandsOnAState", recurses := true, apart := false }
def FnNextPairLandsOnAStateSaid : Prop := fnNextPairLandsOnAStateRow.holds Try.pinned (OpenSpec.ofChange fnNextPairLandsOnAStateSpec)

/-- ITS FALSE NEIGHBOUR: 'it returns false'. Refute it at one input. -/
def fnNextPairLandsOnAStateWrong : ChangeSpec := { name := "fnNextPairLandsOnAState", fn := fun _ => fun
  | [d1, d2, d3] => { results := [.lit (.bool false)], args := [d1, d2, d3] }
  | _ => none }
def FnNextPairLandsOnAStateWrongFalsely : Prop := fnNextPairLandsOnAStateRow.holds Try.pinned (OpenSpec.ofChange fnNextPairLandsOnAStateWrong)

/-- 'zzlaws_internal_model_b1.FnNextPairSymmetric': WHATEVER THE INPUT: true; the input reads as it did. -/
def fnNextPairSymmetricSpec : ChangeSpec := { name := "fnNextPairSymmetric", fn := fun _ => fun
  | [d1, d2, d3] => { results := [.lit (.bool true)], args := [d1, d2, d3] }
  | _ => none }
def fnNextPairSymmetricRow : OpenClaim := { program := "qxb6603276ar", sum := "a3289236865a2b59998a4e0e9e6ba8e8e465aa01d30d02e94485912b15b4d39d", func := "example.com/annal/annal/zzlaws_internal_model_b1.FnNextPairSymmetric", spec := "fnNextPairSymmetric", recurses := true, apart := false }
def FnNextPairSymmetricSaid : Prop := fnNextPairSymmetricRow.holds Try.pinned (OpenSpec.ofChange fnNextPairSymmetricSpec)

/-- ITS FALSE NEIGHBOUR: 'it returns false'. Refute it at one input. -/
def fnNextPairSymmetricWrong : ChangeSpec := { name := "fnNextPairSymmetric", fn := fun _ => fun
  | [d1, d2, d3] => { results := [.lit (.bool false)], args := [d1, d2, d3] }
  | _ => none }
def FnNextPairSymmetricWrongFalsely : Prop := fnNextPairSymmetricRow.holds Try.pinned (OpenSpec.ofChange fnNextPairSymmetricWrong)

/-- 'zzlaws_internal_model_b1.FnNextPairLongRunSettles': WHATEVER THE INPUT: true; the input reads as it did. -/
def fnNextPairLongRunSettlesSpec : ChangeSpec := { name := "fnNextPairLongRunSettles", fn := fun _ => fun
  | [d1, d2, d3] => { results := [.lit (.bool true)], args := [d1, d2, d3] }
  | _ => none }
def fnNextPairLongRunSettlesRow : OpenClaim := { program := "qxb6603276ar", sum := "a3289236865a2b59998a4e0e9e6ba8e8e465aa01d30d02e94485912b15b4d39d", func := "example.com/annal/annal/zzlaws_internal_model_b1.FnNextPairLongRunSettles", spec := "fnNextPairLongRunSettles", recurses := true, apart := false }
def FnNextPairLongRunSettlesSaid : Prop := fnNextPairLongRunSettlesRow.holds Try.pinned (OpenSpec.ofChange fnNextPairLongRunSettlesSpec)

/-- ITS FALSE NEIGHBOUR: 'it returns false'. Refute it at one input. -/
def fnNextPairLongRunSettlesWrong : ChangeSpec := { name := "fnNextPairLongRunSettles", fn := fun _ => fun
  | [d1, d2, d3] => { results := [.lit (.bool false)], args := [d1, d2, d3] }
  | _ => none }
def FnNextPairLongRunSettlesWrongFalsely : Prop := fnNextPairLongRunSettlesRow.holds Try.pinned (OpenSpec.ofChange fnNextPairLongRunSettlesWrong)

end Rows
end Go.Proofs.Qxb6603276aR
