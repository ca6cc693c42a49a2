/-
  No cell of these rows narrows 'for every input' (looked for: loops, veiled, ifaces, maps, wideKeys, modest, calm, conditions, laid).
  DERIVED. THE GIVEN ROWS OF THIS SEAT. 5 by the template 'for every input the law returns true; each argument reads behind the call as it read before'; 0 by the template 'total and deterministic' (their statements: Qxb6000886aTotals.lean).
  GIVEN WITH THE SEED: the statements are not yours to turn. If you find one false, say at which input.
  Laid BY PROGRAM, IN A SANDBOX (cutbox-rows.mjs): the forced cells as the released guide's own fill.sh prints them over the translation c768c6898da5399c… (all of the seat's roots in one cut). By AI agents, Wed Nov 11 2026. No macro, syntax, notation, axiom, sorry.
-/
import Derived.Test.Qxb6000886aChecked
import GoSem.Claim
import GoSem.ClaimJoined
import GoSem.ClaimMapViews
import Derived.JoinedTies
import Derived.KernelRfl
namespace Go.Proofs.Qxb6000886a
/- THE CELL 'sum', in the pinned program and in every row, IS THE sha256 OF THE DUMP (.gsa) THAT Qxb6000886aProg.lean LOADS. Nothing in Lean hashes anything: it is a label: what it is worth is what the hold of that sum in a sandbox is worth. -/
noncomputable def Try.pinned : Pinned := { name := "qxb6000886a", sum := "c768c6898da5399cfc40de540100d20221eaf5a7e3ecba3cb2af815be90dcddc", checked := Try.checked }
namespace Rows
def none {H : Type} : Left H := { results := [], args := [] }

/-- 'zzlaws_internal_stringprep_b1.FnMapSpacesAndNothingExactSpec': WHATEVER THE INPUT: true; the input reads as it did. -/
def fnMapSpacesAndNothingExactSpecSpec : ChangeSpec := { name := "fnMapSpacesAndNothingExactSpec", fn := fun _ => fun
  | [d1, d2, d3, d4, d5, d6, d7, d8] => { results := [.lit (.bool true)], args := [d1, d2, d3, d4, d5, d6, d7, d8] }
  | _ => none }
def fnMapSpacesAndNothingExactSpecRow : OpenClaim := { program := "qxb6000886a", sum := "c768c6898da5399cfc40de540100d20221eaf5a7e3ecba3cb2af815be90dcddc", func := "example.com/certwright/certwright/zzlaws_internal_stringprep_b1.FnMapSpacesAndNothingExactSpec", spec := "fnMapSpacesAndNothingExactSpec", plainKeys := false, apart := false }
def FnMapSpacesAndNothingExactSpecSaid : Prop := fnMapSpacesAndNothingExactSpecRow.holds Try.pinned (OpenSpec.ofChange fnMapSpacesAndNothingExactSpecSpec)

/-- ITS FALSE NEIGHBOUR: 'it returns false'. Refute it at one input. -/
def fnMapSpacesAndNothingExactSpecWrong : ChangeSpec := { name := "fnMapSpacesAndNothingExactSpec", fn := fun _ => fun
  | [d1, d2, d3, d4, d5, d6, d7, d8] => { results := [.lit (.bool false)], args := [d1, d2, d3, d4, d5, d6, d7, d8] }
  | _ => none }
def FnMapSpacesAndNothingExactSpecWrongFalsely : Prop := fnMapSpacesAndNothingExactSpecRow.holds Try.pinned (OpenSpec.ofChange fnMapSpacesAndNothingExactSpecWrong)

/-- 'zzlaws_internal_stringprep_b1.FnMapSpacesAndNothingIdempotent': WHATEVER THE INPUT: true; the input reads as it did. -/
def fnMapSpacesAndNothingIdempotentSpec : ChangeSpec := { name := "fnMapSpacesAndNothingIdempotent", fn := fun _ => fun
  | [d1, d2, d3, d4, d5, d6, d7, d8] => { results := [.lit (.bool true)], args := [d1, d2, d3, d4, d5, d6, d7, d8] }
  | _ => none }
def fnMapSpacesAndNothingIdempotentRow : OpenClaim := { program := "qxb6000886a", sum := "c768c6898da5399cfc40de540100d20221eaf5a7e3ecba3cb2af815be90dcddc", func := "example.com/certwright/certwright/zzlaws_internal_stringprep_b1.FnMapSpacesAndNothingIdempotent", spec := "fnMapSpacesAndNothingIdempotent", plainKeys := false, apart := false }
def FnMapSpacesAndNothingIdempotentSaid : Prop := fnMapSpacesAndNothingIdempotentRow.holds Try.pinned (OpenSpec.ofChange fnMapSpacesAndNothingIdempotentSpec)

/-- ITS FALSE NEIGHBOUR: 'it returns false'. Refute it at one input. -/
def fnMapSpacesAndNothingIdempotentWrong : ChangeSpec := { name := "fnMapSpacesAndNothingIdempotent", fn := fun _ => fun
  | [d1, d2, d3, d4, d5, d6, d7, d8] => { results := [.lit (.bool false)], args := [d1, d2, d3, d4, d5, d6, d7, d8] }
  | _ => none }
def FnMapSpacesAndNothingIdempotentWrongFalsely : Prop := fnMapSpacesAndNothingIdempotentRow.holds Try.pinned (OpenSpec.ofChange fnMapSpacesAndNothingIdempotentWrong)

/-- 'zzlaws_internal_stringprep_b1.FnComposeHangulJamoRoundTrip': WHATEVER THE INPUT: true; the input reads as it did. -/
def fnComposeHangulJamoRoundTripSpec : ChangeSpec := { name := "fnComposeHangulJamoRoundTrip", fn := fun _ => fun
  | [d1, d2, d3] => { results := [.lit (.bool true)], args := [d1, d2, d3] }
  | _ => none }
def fnComposeHangulJamoRoundTripRow : OpenClaim := { program := "qxb6000886a", sum := "c768c6898da5399cfc40de540100d20221eaf5a7e3ecba3cb2af815be90dcddc", func := "example.com/certwright/certwright/zzlaws_internal_stringprep_b1.FnComposeHangulJamoRoundTrip", spec := "fnComposeHangulJamoRoundTrip", plainKeys := false, apart := false }
def FnComposeHangulJamoRoundTripSaid : Prop := fnComposeHangulJamoRoundTripRow.holds Try.pinned (OpenSpec.ofChange fnComposeHangulJamoRoundTripSpec)

/-- ITS FALSE NEIGHBOUR: 'it returns false'. Refute it at one input. -/
def fnComposeHangulJamoRoundTripWrong : ChangeSpec := { name := "fnComposeHangulJamoRoundTrip", fn := fun _ => fun
  | [d1, d2, d3] => { results := [.lit (.bool false)], args := [d1, d2, d3] }
  | _ => none }
def FnComposeHangulJamoRoundTripWrongFalsely : Prop := fnComposeHangulJamoRoundTripRow.holds Try.pinned (OpenSpec.ofChange fnComposeHangulJamoRoundTripWrong)

/-- 'zzlaws_internal_stringprep_b1.FnComposeLeavesNonComposablesAlone': WHATEVER THE INPUT: true; the input reads as it did. -/
def fnComposeLeavesNonComposablesAloneSpec : ChangeSpec := { name := "fnComposeLeavesNonComposablesAlone", fn := fun _ => fun
  | [d1, d2, d3, d4, d5, d6] => { results := [.lit (.bool true)], args := [d1, d2, d3, d4, d5, d6] }
  | _ => none }
def fnComposeLeavesNonComposablesAloneRow : OpenClaim := { program := "qxb6000886a", sum := "c768c6898da5399cfc40de540100d20221eaf5a7e3ecba3cb2af815be90dcddc", func := "example.com/certwright/certwright/zzlaws_internal_stringprep_b1.FnComposeLeavesNonComposablesAlone", spec := "fnComposeLeavesNonComposablesAlone", plainKeys := false, apart := false }
def FnComposeLeavesNonComposablesAloneSaid : Prop := fnComposeLeavesNonComposablesAloneRow.holds Try.pinned (OpenSpec.ofChange fnComposeLeavesNonComposablesAloneSpec)

/-- ITS FALSE NEIGHBOUR: 'it returns false'. Refute it at one input. -/
def fnComposeLeavesNonComposablesAloneWrong : ChangeSpec := { name := "fnComposeLeavesNonComposablesAlone", fn := fun _ => fun
  | [d1, d2, d3, d4, d5, d6] => { results := [.lit (.bool false)], args := [d1, d2, d3, d4, d5, d6] }
  | _ => none }
def FnComposeLeavesNonComposablesAloneWrongFalsely : Prop := fnComposeLeavesNonComposablesAloneRow.holds Try.pinned (OpenSpec.ofChange fnComposeLeavesNonComposablesAloneWrong)

/-- 'zzlaws_internal_stringprep_b1.FnComposeShrinksAndKeepsLeadingNonStarters': WHATEVER THE INPUT: true; the input reads as it did. -/
def fnComposeShrinksAndKeepsLeadingNonStartersSpec : ChangeSpec := { name := "fnComposeShrinksAndKeepsLeadingNonStarters", fn := fun _ => fun
  | [d1, d2, d3, d4, d5, d6] => { results := [.lit (.bool true)], args := [d1, d2, d3, d4, d5, d6] }
  | _ => none }
def fnComposeShrinksAndKeepsLeadingNonStartersRow : OpenClaim := { program := "qxb6000886a", sum := "c768c6898da5399cfc40de540100d20221eaf5a7e3ecba3cb2af815be90dcddc", func := "example.com/certwright/certwright/zzlaws_internal_stringprep_b1.FnComposeShrinksAndKeepsLeadingNonStarters", spec := "fnComposeShrinksAndKeepsLeadingNonStarters", plainKeys := false, apart := false }
def FnComposeShrinksAndKeepsLeadingNonStartersSaid : Prop := fnComposeShrinksAndKeepsLeadingNonStartersRow.holds Try.pinned (OpenSpec.ofChange fnComposeShrinksAndKeepsLeadingNonStartersSpec)

/-- ITS FALSE NEIGHBOUR: 'it returns false'. Refute it at one input. -/
def fnComposeShrinksAndKeepsLeadingNonStartersWrong : ChangeSpec := { name := "fnComposeShrinksAndKeepsLeadingNonStarters", fn := fun _ => fun
  | [d1, d2, d3, d4, d5, d6] => { results := [.lit (.bool false)], args := [d1, d2, d3, d4, d5, d6] }
  | _ => none }
def FnComposeShrinksAndKeepsLeadingNonStartersWrongFalsely : Prop := fnComposeShrinksAndKeepsLeadingNonStartersRow.holds Try.pinned (OpenSpec.ofChange fnComposeShrinksAndKeepsLeadingNonStartersWrong)

end Rows
end Go.Proofs.Qxb6000886a
