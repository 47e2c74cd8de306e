/-
  No cell of these rows narrows 'for every input' (looked for: loops, veiled, ifaces, maps, wideKeys, modest, calm, conditions, laid).
  DERIVED. THE GIVEN ROWS OF THIS SEAT. 4 by the template 'for every input the law returns true; each argument reads behind the call as it read before'; 0 by the template 'total and deterministic' (their statements: Qxb6003689aTotals.lean).
  GIVEN WITH THE SEED: the statements are not yours to turn. If you find one false, say at which input.
  Laid BY PROGRAM, IN A SANDBOX (cutbox-rows.mjs): the forced cells as the released guide's own fill.sh prints them over the translation 349185d45e369fb0… (all of the seat's roots in one cut). By AI agents, Wed Nov 11 2026. No macro, syntax, notation, axiom, sorry.
-/
import Derived.Test.Qxb6003689aChecked
import GoSem.Claim
import GoSem.ClaimJoined
import GoSem.ClaimMapViews
import Derived.JoinedTies
import Derived.KernelRfl
namespace Go.Proofs.Qxb6003689a
/- THE CELL 'sum', in the pinned program and in every row, IS THE sha256 OF THE DUMP (.gsa) THAT Qxb6003689aProg.lean LOADS. Nothing in Lean hashes anything: it is a label: what it is worth is what the hold of that sum in a sandbox is worth. -/
noncomputable def Try.pinned : Pinned := { name := "qxb6003689a", sum := "349185d45e369fb02d047daa5db5b36a7ed834f26bc71cdcdc125ce88aafcdf8", checked := Try.checked }
namespace Rows
def none {H : Type} : Left H := { results := [], args := [] }

/-- 'zzlaws_internal_yaml_g1.FnIsNullMatchesCoreSchema': WHATEVER THE INPUT: true; the input reads as it did. -/
def fnIsNullMatchesCoreSchemaSpec : ChangeSpec := { name := "fnIsNullMatchesCoreSchema", fn := fun _ => fun
  | [d1, d2, d3, d4, d5, d6] => { results := [.lit (.bool true)], args := [d1, d2, d3, d4, d5, d6] }
  | _ => none }
def fnIsNullMatchesCoreSchemaRow : OpenClaim := { program := "qxb6003689a", sum := "349185d45e369fb02d047daa5db5b36a7ed834f26bc71cdcdc125ce88aafcdf8", func := "example.com/oropendola/oropendola/zzlaws_internal_yaml_g1.FnIsNullMatchesCoreSchema", spec := "fnIsNullMatchesCoreSchema", apart := false }
def FnIsNullMatchesCoreSchemaSaid : Prop := fnIsNullMatchesCoreSchemaRow.holds Try.pinned (OpenSpec.ofChange fnIsNullMatchesCoreSchemaSpec)

/-- ITS FALSE NEIGHBOUR: 'it returns false'. Refute it at one input. -/
def fnIsNullMatchesCoreSchemaWrong : ChangeSpec := { name := "fnIsNullMatchesCoreSchema", fn := fun _ => fun
  | [d1, d2, d3, d4, d5, d6] => { results := [.lit (.bool false)], args := [d1, d2, d3, d4, d5, d6] }
  | _ => none }
def FnIsNullMatchesCoreSchemaWrongFalsely : Prop := fnIsNullMatchesCoreSchemaRow.holds Try.pinned (OpenSpec.ofChange fnIsNullMatchesCoreSchemaWrong)

/-- 'zzlaws_internal_yaml_g1.FnKindNamesApart': WHATEVER THE INPUT: true; the input reads as it did. -/
def fnKindNamesApartSpec : ChangeSpec := { name := "fnKindNamesApart", fn := fun _ => fun
  | [d1, d2] => { results := [.lit (.bool true)], args := [d1, d2] }
  | _ => none }
def fnKindNamesApartRow : OpenClaim := { program := "qxb6003689a", sum := "349185d45e369fb02d047daa5db5b36a7ed834f26bc71cdcdc125ce88aafcdf8", func := "example.com/oropendola/oropendola/zzlaws_internal_yaml_g1.FnKindNamesApart", spec := "fnKindNamesApart", apart := false }
def FnKindNamesApartSaid : Prop := fnKindNamesApartRow.holds Try.pinned (OpenSpec.ofChange fnKindNamesApartSpec)

/-- ITS FALSE NEIGHBOUR: 'it returns false'. Refute it at one input. -/
def fnKindNamesApartWrong : ChangeSpec := { name := "fnKindNamesApart", fn := fun _ => fun
  | [d1, d2] => { results := [.lit (.bool false)], args := [d1, d2] }
  | _ => none }
def FnKindNamesApartWrongFalsely : Prop := fnKindNamesApartRow.holds Try.pinned (OpenSpec.ofChange fnKindNamesApartWrong)

/-- 'zzlaws_internal_yaml_g1.FnIsPrintableByExclusion': WHATEVER THE INPUT: true; the input reads as it did. -/
def fnIsPrintableByExclusionSpec : ChangeSpec := { name := "fnIsPrintableByExclusion", fn := fun _ => fun
  | [d] => { results := [.lit (.bool true)], args := [d] }
  | _ => none }
def fnIsPrintableByExclusionRow : OpenClaim := { program := "qxb6003689a", sum := "349185d45e369fb02d047daa5db5b36a7ed834f26bc71cdcdc125ce88aafcdf8", func := "example.com/oropendola/oropendola/zzlaws_internal_yaml_g1.FnIsPrintableByExclusion", spec := "fnIsPrintableByExclusion", apart := false }
def FnIsPrintableByExclusionSaid : Prop := fnIsPrintableByExclusionRow.holds Try.pinned (OpenSpec.ofChange fnIsPrintableByExclusionSpec)

/-- ITS FALSE NEIGHBOUR: 'it returns false'. Refute it at one input. -/
def fnIsPrintableByExclusionWrong : ChangeSpec := { name := "fnIsPrintableByExclusion", fn := fun _ => fun
  | [d] => { results := [.lit (.bool false)], args := [d] }
  | _ => none }
def FnIsPrintableByExclusionWrongFalsely : Prop := fnIsPrintableByExclusionRow.holds Try.pinned (OpenSpec.ofChange fnIsPrintableByExclusionWrong)

/-- 'zzlaws_internal_yaml_g1.FnPropsAtIsFirstSet': WHATEVER THE INPUT: true; the input reads as it did. -/
def fnPropsAtIsFirstSetSpec : ChangeSpec := { name := "fnPropsAtIsFirstSet", fn := fun _ => fun
  | [d1, d2, d3, d4] => { results := [.lit (.bool true)], args := [d1, d2, d3, d4] }
  | _ => none }
def fnPropsAtIsFirstSetRow : OpenClaim := { program := "qxb6003689a", sum := "349185d45e369fb02d047daa5db5b36a7ed834f26bc71cdcdc125ce88aafcdf8", func := "example.com/oropendola/oropendola/zzlaws_internal_yaml_g1.FnPropsAtIsFirstSet", spec := "fnPropsAtIsFirstSet", apart := false }
def FnPropsAtIsFirstSetSaid : Prop := fnPropsAtIsFirstSetRow.holds Try.pinned (OpenSpec.ofChange fnPropsAtIsFirstSetSpec)

/-- ITS FALSE NEIGHBOUR: 'it returns false'. Refute it at one input. -/
def fnPropsAtIsFirstSetWrong : ChangeSpec := { name := "fnPropsAtIsFirstSet", fn := fun _ => fun
  | [d1, d2, d3, d4] => { results := [.lit (.bool false)], args := [d1, d2, d3, d4] }
  | _ => none }
def FnPropsAtIsFirstSetWrongFalsely : Prop := fnPropsAtIsFirstSetRow.holds Try.pinned (OpenSpec.ofChange fnPropsAtIsFirstSetWrong)

end Rows
end Go.Proofs.Qxb6003689a
