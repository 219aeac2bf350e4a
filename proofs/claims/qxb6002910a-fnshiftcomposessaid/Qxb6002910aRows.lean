/-
  No cell of these rows narrows 'for every input' (looked for: loops, veiled, ifaces, maps, wideKeys, modest, calm, conditions, laid).
  DERIVED. THE GIVEN ROWS OF THIS SEAT. 4 by the template 'for every input the law returns true; each argument reads behind the call as it read before'; 0 by the template 'total and deterministic' (their statements: Qxb6002910aTotals.lean).
  GIVEN WITH THE SEED: the statements are not yours to turn. If you find one false, say at which input.
  Laid BY PROGRAM, IN A SANDBOX (cutbox-rows.mjs): the forced cells as the released guide's own fill.sh prints them over the translation 0ce57886e40d7cd4… (all of the seat's roots in one cut). By AI agents, Wed Nov 11 2026. No macro, syntax, notation, axiom, sorry.
-/
import Derived.Test.Qxb6002910aChecked
import GoSem.Claim
import GoSem.ClaimJoined
import GoSem.ClaimMapViews
import Derived.JoinedTies
import Derived.KernelRfl
namespace Go.Proofs.Qxb6002910a
/- THE CELL 'sum', in the pinned program and in every row, IS THE sha256 OF THE DUMP (.gsa) THAT Qxb6002910aProg.lean LOADS. Nothing in Lean hashes anything: it is a label: what it is worth is what the hold of that sum in a sandbox is worth. -/
noncomputable def Try.pinned : Pinned := { name := "qxb6002910a", sum := "0ce57886e40d7cd46fb3453a2cf81698041de73aff2a6acb4148834dbadc5576", checked := Try.checked }
namespace Rows
def none {H : Type} : Left H := { results := [], args := [] }

/-- 'zzlaws_internal_checksum_b1.FnTimesXMatchesPolynomialModel': WHATEVER THE INPUT: true; the input reads as it did. -/
def fnTimesXMatchesPolynomialModelSpec : ChangeSpec := { name := "fnTimesXMatchesPolynomialModel", fn := fun _ => fun
  | [d1, d2, d3] => { results := [.lit (.bool true)], args := [d1, d2, d3] }
  | _ => none }
def fnTimesXMatchesPolynomialModelRow : OpenClaim := { program := "qxb6002910a", sum := "0ce57886e40d7cd46fb3453a2cf81698041de73aff2a6acb4148834dbadc5576", func := "example.com/branches-over-buckets/branches-over-buckets/zzlaws_internal_checksum_b1.FnTimesXMatchesPolynomialModel", spec := "fnTimesXMatchesPolynomialModel", apart := false }
def FnTimesXMatchesPolynomialModelSaid : Prop := fnTimesXMatchesPolynomialModelRow.holds Try.pinned (OpenSpec.ofChange fnTimesXMatchesPolynomialModelSpec)

/-- ITS FALSE NEIGHBOUR: 'it returns false'. Refute it at one input. -/
def fnTimesXMatchesPolynomialModelWrong : ChangeSpec := { name := "fnTimesXMatchesPolynomialModel", fn := fun _ => fun
  | [d1, d2, d3] => { results := [.lit (.bool false)], args := [d1, d2, d3] }
  | _ => none }
def FnTimesXMatchesPolynomialModelWrongFalsely : Prop := fnTimesXMatchesPolynomialModelRow.holds Try.pinned (OpenSpec.ofChange fnTimesXMatchesPolynomialModelWrong)

/-- 'zzlaws_internal_checksum_b1.FnTimesMatchesPolynomialModel': WHATEVER THE INPUT: true; the input reads as it did. -/
def fnTimesMatchesPolynomialModelSpec : ChangeSpec := { name := "fnTimesMatchesPolynomialModel", fn := fun _ => fun
  | [d1, d2, d3, d4] => { results := [.lit (.bool true)], args := [d1, d2, d3, d4] }
  | _ => none }
def fnTimesMatchesPolynomialModelRow : OpenClaim := { program := "qxb6002910a", sum := "0ce57886e40d7cd46fb3453a2cf81698041de73aff2a6acb4148834dbadc5576", func := "example.com/branches-over-buckets/branches-over-buckets/zzlaws_internal_checksum_b1.FnTimesMatchesPolynomialModel", spec := "fnTimesMatchesPolynomialModel", apart := false }
def FnTimesMatchesPolynomialModelSaid : Prop := fnTimesMatchesPolynomialModelRow.holds Try.pinned (OpenSpec.ofChange fnTimesMatchesPolynomialModelSpec)

/-- ITS FALSE NEIGHBOUR: 'it returns false'. Refute it at one input. -/
def fnTimesMatchesPolynomialModelWrong : ChangeSpec := { name := "fnTimesMatchesPolynomialModel", fn := fun _ => fun
  | [d1, d2, d3, d4] => { results := [.lit (.bool false)], args := [d1, d2, d3, d4] }
  | _ => none }
def FnTimesMatchesPolynomialModelWrongFalsely : Prop := fnTimesMatchesPolynomialModelRow.holds Try.pinned (OpenSpec.ofChange fnTimesMatchesPolynomialModelWrong)

/-- 'zzlaws_internal_checksum_b1.FnShiftMatchesPolynomialModel': WHATEVER THE INPUT: true; the input reads as it did. -/
def fnShiftMatchesPolynomialModelSpec : ChangeSpec := { name := "fnShiftMatchesPolynomialModel", fn := fun _ => fun
  | [d1, d2, d3, d4] => { results := [.lit (.bool true)], args := [d1, d2, d3, d4] }
  | _ => none }
def fnShiftMatchesPolynomialModelRow : OpenClaim := { program := "qxb6002910a", sum := "0ce57886e40d7cd46fb3453a2cf81698041de73aff2a6acb4148834dbadc5576", func := "example.com/branches-over-buckets/branches-over-buckets/zzlaws_internal_checksum_b1.FnShiftMatchesPolynomialModel", spec := "fnShiftMatchesPolynomialModel", apart := false }
def FnShiftMatchesPolynomialModelSaid : Prop := fnShiftMatchesPolynomialModelRow.holds Try.pinned (OpenSpec.ofChange fnShiftMatchesPolynomialModelSpec)

/-- ITS FALSE NEIGHBOUR: 'it returns false'. Refute it at one input. -/
def fnShiftMatchesPolynomialModelWrong : ChangeSpec := { name := "fnShiftMatchesPolynomialModel", fn := fun _ => fun
  | [d1, d2, d3, d4] => { results := [.lit (.bool false)], args := [d1, d2, d3, d4] }
  | _ => none }
def FnShiftMatchesPolynomialModelWrongFalsely : Prop := fnShiftMatchesPolynomialModelRow.holds Try.pinned (OpenSpec.ofChange fnShiftMatchesPolynomialModelWrong)

/-- 'zzlaws_internal_checksum_b1.FnShiftComposes': WHATEVER THE INPUT: true; the input reads as it did. -/
def fnShiftComposesSpec : ChangeSpec := { name := "fnShiftComposes", fn := fun _ => fun
  | [d1, d2, d3, d4, d5] => { results := [.lit (.bool true)], args := [d1, d2, d3, d4, d5] }
  | _ => none }
def fnShiftComposesRow : OpenClaim := { program := "qxb6002910a", sum := "0ce57886e40d7cd46fb3453a2cf81698041de73aff2a6acb4148834dbadc5576", func := "example.com/branches-over-buckets/branches-over-buckets/zzlaws_internal_checksum_b1.FnShiftComposes", spec := "fnShiftComposes", apart := false }
def FnShiftComposesSaid : Prop := fnShiftComposesRow.holds Try.pinned (OpenSpec.ofChange fnShiftComposesSpec)

/-- ITS FALSE NEIGHBOUR: 'it returns false'. Refute it at one input. -/
def fnShiftComposesWrong : ChangeSpec := { name := "fnShiftComposes", fn := fun _ => fun
  | [d1, d2, d3, d4, d5] => { results := [.lit (.bool false)], args := [d1, d2, d3, d4, d5] }
  | _ => none }
def FnShiftComposesWrongFalsely : Prop := fnShiftComposesRow.holds Try.pinned (OpenSpec.ofChange fnShiftComposesWrong)

end Rows
end Go.Proofs.Qxb6002910a
