/-
  No cell of these rows narrows 'for every input' (looked for: loops, veiled, ifaces, maps, wideKeys, modest, calm, conditions, laid).
  DERIVED. THE GIVEN ROWS OF THIS SEAT. 3 by the template 'for every input the law returns true; each argument reads behind the call as it read before'; 0 by the template 'total and deterministic' (their statements: Qxb6603700aTotals.lean).
  GIVEN WITH THE SEED: the statements are not yours to turn. If you find one false, say at which input.
  Laid BY PROGRAM, IN A SANDBOX (cutbox-rows.mjs): the forced cells as the released guide's own fill.sh prints them over the translation 50b00c35311639e7… (all of the seat's roots in one cut). By AI agents, Wed Nov 11 2026. No macro, syntax, notation, axiom, sorry.
-/
import Derived.Test.Qxb6603700aChecked
import GoSem.Claim
import GoSem.ClaimJoined
import GoSem.ClaimMapViews
import Derived.JoinedTies
import Derived.KernelRfl
namespace Go.Proofs.Qxb6603700a
/- THE CELL 'sum', in the pinned program and in every row, IS THE sha256 OF THE DUMP (.gsa) THAT Qxb6603700aProg.lean LOADS. Nothing in Lean hashes anything: it is a label: what it is worth is what the hold of that sum in a sandbox is worth. -/
noncomputable def Try.pinned : Pinned := { name := "qxb6603700a", sum := "50b00c35311639e748b03bad00d8aa786a730749f18fbaf4ed3353836e1c2961", checked := Try.checked }
namespace Rows
def none {H : Type} : Left H := { results := [], args := [] }

/-- 'zzlaws_internal_uuid_b1.FnValidMatchesImageOfFormatter': WHATEVER THE INPUT: true; the input reads as it did. -/
def fnValidMatchesImageOfFormatterSpec : ChangeSpec := { name := "fnValidMatchesImageOfFormatter", fn := fun _ => fun
  | [d] => { results := [.lit (.bool true)], args := [d] }
  | _ => none }
def fnValidMatchesImageOfFormatterRow : OpenClaim := { program := "qxb6603700a", sum := "50b00c35311639e748b03bad00d8aa786a730749f18fbaf4ed3353836e1c2961", func := "example.com/ravenpost/ravenpost/zzlaws_internal_uuid_b1.FnValidMatchesImageOfFormatter", spec := "fnValidMatchesImageOfFormatter", apart := false }
def FnValidMatchesImageOfFormatterSaid : Prop := fnValidMatchesImageOfFormatterRow.holds Try.pinned (OpenSpec.ofChange fnValidMatchesImageOfFormatterSpec)

/-- ITS FALSE NEIGHBOUR: 'it returns false'. Refute it at one input. -/
def fnValidMatchesImageOfFormatterWrong : ChangeSpec := { name := "fnValidMatchesImageOfFormatter", fn := fun _ => fun
  | [d] => { results := [.lit (.bool false)], args := [d] }
  | _ => none }
def FnValidMatchesImageOfFormatterWrongFalsely : Prop := fnValidMatchesImageOfFormatterRow.holds Try.pinned (OpenSpec.ofChange fnValidMatchesImageOfFormatterWrong)

/-- 'zzlaws_internal_uuid_b1.FnValidMatchesGroupModel': WHATEVER THE INPUT: true; the input reads as it did. -/
def fnValidMatchesGroupModelSpec : ChangeSpec := { name := "fnValidMatchesGroupModel", fn := fun _ => fun
  | [d] => { results := [.lit (.bool true)], args := [d] }
  | _ => none }
def fnValidMatchesGroupModelRow : OpenClaim := { program := "qxb6603700a", sum := "50b00c35311639e748b03bad00d8aa786a730749f18fbaf4ed3353836e1c2961", func := "example.com/ravenpost/ravenpost/zzlaws_internal_uuid_b1.FnValidMatchesGroupModel", spec := "fnValidMatchesGroupModel", apart := false }
def FnValidMatchesGroupModelSaid : Prop := fnValidMatchesGroupModelRow.holds Try.pinned (OpenSpec.ofChange fnValidMatchesGroupModelSpec)

/-- ITS FALSE NEIGHBOUR: 'it returns false'. Refute it at one input. -/
def fnValidMatchesGroupModelWrong : ChangeSpec := { name := "fnValidMatchesGroupModel", fn := fun _ => fun
  | [d] => { results := [.lit (.bool false)], args := [d] }
  | _ => none }
def FnValidMatchesGroupModelWrongFalsely : Prop := fnValidMatchesGroupModelRow.holds Try.pinned (OpenSpec.ofChange fnValidMatchesGroupModelWrong)

/-- 'zzlaws_internal_uuid_b1.FnValidAcceptsEveryFormattedUUID': WHATEVER THE INPUT: true; the input reads as it did. -/
def fnValidAcceptsEveryFormattedUUIDSpec : ChangeSpec := { name := "fnValidAcceptsEveryFormattedUUID", fn := fun _ => fun
  | [d] => { results := [.lit (.bool true)], args := [d] }
  | _ => none }
def fnValidAcceptsEveryFormattedUUIDRow : OpenClaim := { program := "qxb6603700a", sum := "50b00c35311639e748b03bad00d8aa786a730749f18fbaf4ed3353836e1c2961", func := "example.com/ravenpost/ravenpost/zzlaws_internal_uuid_b1.FnValidAcceptsEveryFormattedUUID", spec := "fnValidAcceptsEveryFormattedUUID", apart := false }
def FnValidAcceptsEveryFormattedUUIDSaid : Prop := fnValidAcceptsEveryFormattedUUIDRow.holds Try.pinned (OpenSpec.ofChange fnValidAcceptsEveryFormattedUUIDSpec)

/-- ITS FALSE NEIGHBOUR: 'it returns false'. Refute it at one input. -/
def fnValidAcceptsEveryFormattedUUIDWrong : ChangeSpec := { name := "fnValidAcceptsEveryFormattedUUID", fn := fun _ => fun
  | [d] => { results := [.lit (.bool false)], args := [d] }
  | _ => none }
def FnValidAcceptsEveryFormattedUUIDWrongFalsely : Prop := fnValidAcceptsEveryFormattedUUIDRow.holds Try.pinned (OpenSpec.ofChange fnValidAcceptsEveryFormattedUUIDWrong)

end Rows
end Go.Proofs.Qxb6603700a
