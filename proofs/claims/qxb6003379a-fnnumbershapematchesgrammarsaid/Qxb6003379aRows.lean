/-
  No cell of these rows narrows 'for every input' (looked for: loops, veiled, ifaces, maps, wideKeys, modest, calm, conditions, laid).
  DERIVED. THE GIVEN ROWS OF THIS SEAT. 4 by the template 'for every input the law returns true; each argument reads behind the call as it read before'; 0 by the template 'total and deterministic' (their statements: Qxb6003379aTotals.lean).
  GIVEN WITH THE SEED: the statements are not yours to turn. If you find one false, say at which input.
  Laid BY PROGRAM, IN A SANDBOX (cutbox-rows.mjs): the forced cells as the released guide's own fill.sh prints them over the translation 41facd64b63d9d0e… (all of the seat's roots in one cut). By AI agents, Wed Nov 11 2026. No macro, syntax, notation, axiom, sorry.
-/
import Derived.Test.Qxb6003379aChecked
import GoSem.Claim
import GoSem.ClaimJoined
import GoSem.ClaimMapViews
import Derived.JoinedTies
import Derived.KernelRfl
namespace Go.Proofs.Qxb6003379a
/- THE CELL 'sum', in the pinned program and in every row, IS THE sha256 OF THE DUMP (.gsa) THAT Qxb6003379aProg.lean LOADS. Nothing in Lean hashes anything: it is a label: what it is worth is what the hold of that sum in a sandbox is worth. -/
noncomputable def Try.pinned : Pinned := { name := "qxb6003379a", sum := "41facd64b63d9d0e6a6a10272b2ae050502af4adede78dd5a07640e43f6d9906", checked := Try.checked }
namespace Rows
def none {H : Type} : Left H := { results := [], args := [] }

/-- 'zzlaws_json_g1.FnNumberShapeMatchesGrammar': WHATEVER THE INPUT: true; the input reads as it did. -/
def fnNumberShapeMatchesGrammarSpec : ChangeSpec := { name := "fnNumberShapeMatchesGrammar", fn := fun _ => fun
  | [d] => { results := [.lit (.bool true)], args := [d] }
  | _ => none }
def fnNumberShapeMatchesGrammarRow : OpenClaim := { program := "qxb6003379a", sum := "41facd64b63d9d0e6a6a10272b2ae050502af4adede78dd5a07640e43f6d9906", func := "example.com/lineform/lineform/zzlaws_json_g1.FnNumberShapeMatchesGrammar", spec := "fnNumberShapeMatchesGrammar", unfollowed := true, recurses := true, apart := false }
def FnNumberShapeMatchesGrammarSaid : Prop := fnNumberShapeMatchesGrammarRow.holds Try.pinned (OpenSpec.ofChange fnNumberShapeMatchesGrammarSpec)

/-- ITS FALSE NEIGHBOUR: 'it returns false'. Refute it at one input. -/
def fnNumberShapeMatchesGrammarWrong : ChangeSpec := { name := "fnNumberShapeMatchesGrammar", fn := fun _ => fun
  | [d] => { results := [.lit (.bool false)], args := [d] }
  | _ => none }
def FnNumberShapeMatchesGrammarWrongFalsely : Prop := fnNumberShapeMatchesGrammarRow.holds Try.pinned (OpenSpec.ofChange fnNumberShapeMatchesGrammarWrong)

/-- 'zzlaws_json_g1.FnNumberShapeMinusSign': WHATEVER THE INPUT: true; the input reads as it did. -/
def fnNumberShapeMinusSignSpec : ChangeSpec := { name := "fnNumberShapeMinusSign", fn := fun _ => fun
  | [d] => { results := [.lit (.bool true)], args := [d] }
  | _ => none }
def fnNumberShapeMinusSignRow : OpenClaim := { program := "qxb6003379a", sum := "41facd64b63d9d0e6a6a10272b2ae050502af4adede78dd5a07640e43f6d9906", func := "example.com/lineform/lineform/zzlaws_json_g1.FnNumberShapeMinusSign", spec := "fnNumberShapeMinusSign", unfollowed := true, recurses := true, apart := false }
def FnNumberShapeMinusSignSaid : Prop := fnNumberShapeMinusSignRow.holds Try.pinned (OpenSpec.ofChange fnNumberShapeMinusSignSpec)

/-- ITS FALSE NEIGHBOUR: 'it returns false'. Refute it at one input. -/
def fnNumberShapeMinusSignWrong : ChangeSpec := { name := "fnNumberShapeMinusSign", fn := fun _ => fun
  | [d] => { results := [.lit (.bool false)], args := [d] }
  | _ => none }
def FnNumberShapeMinusSignWrongFalsely : Prop := fnNumberShapeMinusSignRow.holds Try.pinned (OpenSpec.ofChange fnNumberShapeMinusSignWrong)

/-- 'zzlaws_json_g1.FnNumberShapeKindByMarks': WHATEVER THE INPUT: true; the input reads as it did. -/
def fnNumberShapeKindByMarksSpec : ChangeSpec := { name := "fnNumberShapeKindByMarks", fn := fun _ => fun
  | [d] => { results := [.lit (.bool true)], args := [d] }
  | _ => none }
def fnNumberShapeKindByMarksRow : OpenClaim := { program := "qxb6003379a", sum := "41facd64b63d9d0e6a6a10272b2ae050502af4adede78dd5a07640e43f6d9906", func := "example.com/lineform/lineform/zzlaws_json_g1.FnNumberShapeKindByMarks", spec := "fnNumberShapeKindByMarks", unfollowed := true, recurses := true, apart := false }
def FnNumberShapeKindByMarksSaid : Prop := fnNumberShapeKindByMarksRow.holds Try.pinned (OpenSpec.ofChange fnNumberShapeKindByMarksSpec)

/-- ITS FALSE NEIGHBOUR: 'it returns false'. Refute it at one input. -/
def fnNumberShapeKindByMarksWrong : ChangeSpec := { name := "fnNumberShapeKindByMarks", fn := fun _ => fun
  | [d] => { results := [.lit (.bool false)], args := [d] }
  | _ => none }
def FnNumberShapeKindByMarksWrongFalsely : Prop := fnNumberShapeKindByMarksRow.holds Try.pinned (OpenSpec.ofChange fnNumberShapeKindByMarksWrong)

/-- 'zzlaws_json_g1.FnSkipSpaceLandsOnFirstNonSpace': WHATEVER THE INPUT: true; the input reads as it did. -/
def fnSkipSpaceLandsOnFirstNonSpaceSpec : ChangeSpec := { name := "fnSkipSpaceLandsOnFirstNonSpace", fn := fun _ => fun
  | [d1, d2, d3] => { results := [.lit (.bool true)], args := [d1, d2, d3] }
  | _ => none }
def fnSkipSpaceLandsOnFirstNonSpaceRow : OpenClaim := { program := "qxb6003379a", sum := "41facd64b63d9d0e6a6a10272b2ae050502af4adede78dd5a07640e43f6d9906", func := "example.com/lineform/lineform/zzlaws_json_g1.FnSkipSpaceLandsOnFirstNonSpace", spec := "fnSkipSpaceLandsOnFirstNonSpace", apart := false }
def FnSkipSpaceLandsOnFirstNonSpaceSaid : Prop := fnSkipSpaceLandsOnFirstNonSpaceRow.holds Try.pinned (OpenSpec.ofChange fnSkipSpaceLandsOnFirstNonSpaceSpec)

/-- ITS FALSE NEIGHBOUR: 'it returns false'. Refute it at one input. -/
def fnSkipSpaceLandsOnFirstNonSpaceWrong : ChangeSpec := { name := "fnSkipSpaceLandsOnFirstNonSpace", fn := fun _ => fun
  | [d1, d2, d3] => { results := [.lit (.bool false)], args := [d1, d2, d3] }
  | _ => none }
def FnSkipSpaceLandsOnFirstNonSpaceWrongFalsely : Prop := fnSkipSpaceLandsOnFirstNonSpaceRow.holds Try.pinned (OpenSpec.ofChange fnSkipSpaceLandsOnFirstNonSpaceWrong)

end Rows
end Go.Proofs.Qxb6003379a
