/-
  No cell of these rows narrows 'for every input' (looked for: loops, veiled, ifaces, maps, wideKeys, modest, calm, conditions, laid).
  DERIVED. THE GIVEN ROWS OF THIS SEAT. 4 by the template 'for every input the law returns true; each argument reads behind the call as it read before'; 0 by the template 'total and deterministic' (their statements: YouafwTotals.lean).
  GIVEN WITH THE SEED: the statements are not yours to turn. If you find one false, say at which input.
  Laid BY PROGRAM, IN A SANDBOX (cutbox-rows.mjs): the forced cells as the released guide's own fill.sh prints them over the translation ebe7b2b40707a0c7… (all of the seat's roots in one cut). By AI agents, Wed Nov 11 2026. No macro, syntax, notation, axiom, sorry.
-/
import Derived.Test.YouafwChecked
import GoSem.Claim
import GoSem.ClaimJoined
import GoSem.ClaimMapViews
import Derived.JoinedTies
import Derived.KernelRfl
namespace Go.Proofs.Youafw
/- THE CELL 'sum', in the pinned program and in every row, IS THE sha256 OF THE DUMP (.gsa) THAT YouafwProg.lean LOADS. Nothing in Lean hashes anything: it is a label: what it is worth is what the hold of that sum in a sandbox is worth. -/
noncomputable def Uafg.pinned : Pinned := { name := "youafw", sum := "ebe7b2b40707a0c71d1c78cc9a576163fb7ef75444e051666c2c1e36826f0592", checked := Uafg.checked }
namespace Rows
def none {H : Type} : Left H := { results := [], args := [] }

/-- 'zzlaws_root_b8.FnTypeNamesEveryJSONKind': WHATEVER THE INPUT: true; the input reads as it did. -/
def fnTypeNamesEveryJSONKindSpec : ChangeSpec := { name := "fnTypeNamesEveryJSONKind", fn := fun _ => fun
  | [d1, d2, d3, d4, d5] => { results := [.lit (.bool true)], args := [d1, d2, d3, d4, d5] }
  | _ => none }
def fnTypeNamesEveryJSONKindRow : OpenClaim := { program := "youafw", sum := "ebe7b2b40707a0c71d1c78cc9a576163fb7ef75444e051666c2c1e36826f0592", func := "github.com/jmespath/go-jmespath/zzlaws_root_b8.FnTypeNamesEveryJSONKind", spec := "fnTypeNamesEveryJSONKind", apart := false }
def FnTypeNamesEveryJSONKindSaid : Prop := fnTypeNamesEveryJSONKindRow.holds Uafg.pinned (OpenSpec.ofChange fnTypeNamesEveryJSONKindSpec)

/-- ITS FALSE NEIGHBOUR: 'it returns false'. Refute it at one input. -/
def fnTypeNamesEveryJSONKindWrong : ChangeSpec := { name := "fnTypeNamesEveryJSONKind", fn := fun _ => fun
  | [d1, d2, d3, d4, d5] => { results := [.lit (.bool false)], args := [d1, d2, d3, d4, d5] }
  | _ => none }
def FnTypeNamesEveryJSONKindWrongFalsely : Prop := fnTypeNamesEveryJSONKindRow.holds Uafg.pinned (OpenSpec.ofChange fnTypeNamesEveryJSONKindWrong)

/-- 'zzlaws_root_b8.FnTypeRefusesNonJSONValues': WHATEVER THE INPUT: true; the input reads as it did. -/
def fnTypeRefusesNonJSONValuesSpec : ChangeSpec := { name := "fnTypeRefusesNonJSONValues", fn := fun _ => fun
  | [d1, d2, d3] => { results := [.lit (.bool true)], args := [d1, d2, d3] }
  | _ => none }
def fnTypeRefusesNonJSONValuesRow : OpenClaim := { program := "youafw", sum := "ebe7b2b40707a0c71d1c78cc9a576163fb7ef75444e051666c2c1e36826f0592", func := "github.com/jmespath/go-jmespath/zzlaws_root_b8.FnTypeRefusesNonJSONValues", spec := "fnTypeRefusesNonJSONValues", apart := false }
def FnTypeRefusesNonJSONValuesSaid : Prop := fnTypeRefusesNonJSONValuesRow.holds Uafg.pinned (OpenSpec.ofChange fnTypeRefusesNonJSONValuesSpec)

/-- ITS FALSE NEIGHBOUR: 'it returns false'. Refute it at one input. -/
def fnTypeRefusesNonJSONValuesWrong : ChangeSpec := { name := "fnTypeRefusesNonJSONValues", fn := fun _ => fun
  | [d1, d2, d3] => { results := [.lit (.bool false)], args := [d1, d2, d3] }
  | _ => none }
def FnTypeRefusesNonJSONValuesWrongFalsely : Prop := fnTypeRefusesNonJSONValuesRow.holds Uafg.pinned (OpenSpec.ofChange fnTypeRefusesNonJSONValuesWrong)

/-- 'zzlaws_root_b8.FnKeysAreTheDistinctKeys': WHATEVER THE INPUT: true; the input reads as it did. -/
def fnKeysAreTheDistinctKeysSpec : ChangeSpec := { name := "fnKeysAreTheDistinctKeys", fn := fun _ => fun
  | [d] => { results := [.lit (.bool true)], args := [d] }
  | _ => none }
def fnKeysAreTheDistinctKeysRow : OpenClaim := { program := "youafw", sum := "ebe7b2b40707a0c71d1c78cc9a576163fb7ef75444e051666c2c1e36826f0592", func := "github.com/jmespath/go-jmespath/zzlaws_root_b8.FnKeysAreTheDistinctKeys", spec := "fnKeysAreTheDistinctKeys", apart := false }
def FnKeysAreTheDistinctKeysSaid : Prop := fnKeysAreTheDistinctKeysRow.holds Uafg.pinned (OpenSpec.ofChange fnKeysAreTheDistinctKeysSpec)

/-- ITS FALSE NEIGHBOUR: 'it returns false'. Refute it at one input. -/
def fnKeysAreTheDistinctKeysWrong : ChangeSpec := { name := "fnKeysAreTheDistinctKeys", fn := fun _ => fun
  | [d] => { results := [.lit (.bool false)], args := [d] }
  | _ => none }
def FnKeysAreTheDistinctKeysWrongFalsely : Prop := fnKeysAreTheDistinctKeysRow.holds Uafg.pinned (OpenSpec.ofChange fnKeysAreTheDistinctKeysWrong)

/-- 'zzlaws_root_b8.FnValuesAreLastOccurrenceIndices': WHATEVER THE INPUT: true; the input reads as it did. -/
def fnValuesAreLastOccurrenceIndicesSpec : ChangeSpec := { name := "fnValuesAreLastOccurrenceIndices", fn := fun _ => fun
  | [d] => { results := [.lit (.bool true)], args := [d] }
  | _ => none }
def fnValuesAreLastOccurrenceIndicesRow : OpenClaim := { program := "youafw", sum := "ebe7b2b40707a0c71d1c78cc9a576163fb7ef75444e051666c2c1e36826f0592", func := "github.com/jmespath/go-jmespath/zzlaws_root_b8.FnValuesAreLastOccurrenceIndices", spec := "fnValuesAreLastOccurrenceIndices", apart := false }
def FnValuesAreLastOccurrenceIndicesSaid : Prop := fnValuesAreLastOccurrenceIndicesRow.holds Uafg.pinned (OpenSpec.ofChange fnValuesAreLastOccurrenceIndicesSpec)

/-- ITS FALSE NEIGHBOUR: 'it returns false'. Refute it at one input. -/
def fnValuesAreLastOccurrenceIndicesWrong : ChangeSpec := { name := "fnValuesAreLastOccurrenceIndices", fn := fun _ => fun
  | [d] => { results := [.lit (.bool false)], args := [d] }
  | _ => none }
def FnValuesAreLastOccurrenceIndicesWrongFalsely : Prop := fnValuesAreLastOccurrenceIndicesRow.holds Uafg.pinned (OpenSpec.ofChange fnValuesAreLastOccurrenceIndicesWrong)

end Rows
end Go.Proofs.Youafw
