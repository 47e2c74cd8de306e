/-
  No cell of these rows narrows 'for every input' (looked for: loops, veiled, ifaces, maps, wideKeys, modest, calm, conditions, laid).
  DERIVED. THE GIVEN ROWS OF THIS SEAT. 5 by the template 'for every input the law returns true; each argument reads behind the call as it read before'; 0 by the template 'total and deterministic' (their statements: Qxb6003627aTotals.lean).
  GIVEN WITH THE SEED: the statements are not yours to turn. If you find one false, say at which input.
  Laid BY PROGRAM, IN A SANDBOX (cutbox-rows.mjs): the forced cells as the released guide's own fill.sh prints them over the translation a7ec12bc62a05d4a… (all of the seat's roots in one cut). By AI agents, Wed Nov 11 2026. No macro, syntax, notation, axiom, sorry.
-/
import Derived.Test.Qxb6003627aChecked
import GoSem.Claim
import GoSem.ClaimJoined
import GoSem.ClaimMapViews
import Derived.JoinedTies
import Derived.KernelRfl
namespace Go.Proofs.Qxb6003627a
/- THE CELL 'sum', in the pinned program and in every row, IS THE sha256 OF THE DUMP (.gsa) THAT Qxb6003627aProg.lean LOADS. Nothing in Lean hashes anything: it is a label: what it is worth is what the hold of that sum in a sandbox is worth. -/
noncomputable def Try.pinned : Pinned := { name := "qxb6003627a", sum := "a7ec12bc62a05d4a3d8a907d4c2661da3ebc165d06fe9302caa5496139359c0d", checked := Try.checked }
namespace Rows
def none {H : Type} : Left H := { results := [], args := [] }

/-- 'zzlaws_internal_checksum_b1.FnTimesIsCarrylessProductModPoly': WHATEVER THE INPUT: true; the input reads as it did. -/
def fnTimesIsCarrylessProductModPolySpec : ChangeSpec := { name := "fnTimesIsCarrylessProductModPoly", fn := fun _ => fun
  | [d1, d2, d3, d4] => { results := [.lit (.bool true)], args := [d1, d2, d3, d4] }
  | _ => none }
def fnTimesIsCarrylessProductModPolyRow : OpenClaim := { program := "qxb6003627a", sum := "a7ec12bc62a05d4a3d8a907d4c2661da3ebc165d06fe9302caa5496139359c0d", func := "example.com/branches-over-buckets/branches-over-buckets/zzlaws_internal_checksum_b1.FnTimesIsCarrylessProductModPoly", spec := "fnTimesIsCarrylessProductModPoly", apart := false }
def FnTimesIsCarrylessProductModPolySaid : Prop := fnTimesIsCarrylessProductModPolyRow.holds Try.pinned (OpenSpec.ofChange fnTimesIsCarrylessProductModPolySpec)

/-- ITS FALSE NEIGHBOUR: 'it returns false'. Refute it at one input. -/
def fnTimesIsCarrylessProductModPolyWrong : ChangeSpec := { name := "fnTimesIsCarrylessProductModPoly", fn := fun _ => fun
  | [d1, d2, d3, d4] => { results := [.lit (.bool false)], args := [d1, d2, d3, d4] }
  | _ => none }
def FnTimesIsCarrylessProductModPolyWrongFalsely : Prop := fnTimesIsCarrylessProductModPolyRow.holds Try.pinned (OpenSpec.ofChange fnTimesIsCarrylessProductModPolyWrong)

/-- 'zzlaws_internal_checksum_b1.FnTimesIsACommutativeRingWithOne': WHATEVER THE INPUT: true; the input reads as it did. -/
def fnTimesIsACommutativeRingWithOneSpec : ChangeSpec := { name := "fnTimesIsACommutativeRingWithOne", fn := fun _ => fun
  | [d1, d2, d3, d4, d5] => { results := [.lit (.bool true)], args := [d1, d2, d3, d4, d5] }
  | _ => none }
def fnTimesIsACommutativeRingWithOneRow : OpenClaim := { program := "qxb6003627a", sum := "a7ec12bc62a05d4a3d8a907d4c2661da3ebc165d06fe9302caa5496139359c0d", func := "example.com/branches-over-buckets/branches-over-buckets/zzlaws_internal_checksum_b1.FnTimesIsACommutativeRingWithOne", spec := "fnTimesIsACommutativeRingWithOne", apart := false }
def FnTimesIsACommutativeRingWithOneSaid : Prop := fnTimesIsACommutativeRingWithOneRow.holds Try.pinned (OpenSpec.ofChange fnTimesIsACommutativeRingWithOneSpec)

/-- ITS FALSE NEIGHBOUR: 'it returns false'. Refute it at one input. -/
def fnTimesIsACommutativeRingWithOneWrong : ChangeSpec := { name := "fnTimesIsACommutativeRingWithOne", fn := fun _ => fun
  | [d1, d2, d3, d4, d5] => { results := [.lit (.bool false)], args := [d1, d2, d3, d4, d5] }
  | _ => none }
def FnTimesIsACommutativeRingWithOneWrongFalsely : Prop := fnTimesIsACommutativeRingWithOneRow.holds Try.pinned (OpenSpec.ofChange fnTimesIsACommutativeRingWithOneWrong)

/-- 'zzlaws_internal_checksum_b1.FnTimesXIsTimesByX': WHATEVER THE INPUT: true; the input reads as it did. -/
def fnTimesXIsTimesByXSpec : ChangeSpec := { name := "fnTimesXIsTimesByX", fn := fun _ => fun
  | [d1, d2, d3] => { results := [.lit (.bool true)], args := [d1, d2, d3] }
  | _ => none }
def fnTimesXIsTimesByXRow : OpenClaim := { program := "qxb6003627a", sum := "a7ec12bc62a05d4a3d8a907d4c2661da3ebc165d06fe9302caa5496139359c0d", func := "example.com/branches-over-buckets/branches-over-buckets/zzlaws_internal_checksum_b1.FnTimesXIsTimesByX", spec := "fnTimesXIsTimesByX", apart := false }
def FnTimesXIsTimesByXSaid : Prop := fnTimesXIsTimesByXRow.holds Try.pinned (OpenSpec.ofChange fnTimesXIsTimesByXSpec)

/-- ITS FALSE NEIGHBOUR: 'it returns false'. Refute it at one input. -/
def fnTimesXIsTimesByXWrong : ChangeSpec := { name := "fnTimesXIsTimesByX", fn := fun _ => fun
  | [d1, d2, d3] => { results := [.lit (.bool false)], args := [d1, d2, d3] }
  | _ => none }
def FnTimesXIsTimesByXWrongFalsely : Prop := fnTimesXIsTimesByXRow.holds Try.pinned (OpenSpec.ofChange fnTimesXIsTimesByXWrong)

/-- 'zzlaws_internal_checksum_b1.FnShiftIsTimesXToThe8n': WHATEVER THE INPUT: true; the input reads as it did. -/
def fnShiftIsTimesXToThe8nSpec : ChangeSpec := { name := "fnShiftIsTimesXToThe8n", fn := fun _ => fun
  | [d1, d2, d3, d4] => { results := [.lit (.bool true)], args := [d1, d2, d3, d4] }
  | _ => none }
def fnShiftIsTimesXToThe8nRow : OpenClaim := { program := "qxb6003627a", sum := "a7ec12bc62a05d4a3d8a907d4c2661da3ebc165d06fe9302caa5496139359c0d", func := "example.com/branches-over-buckets/branches-over-buckets/zzlaws_internal_checksum_b1.FnShiftIsTimesXToThe8n", spec := "fnShiftIsTimesXToThe8n", apart := false }
def FnShiftIsTimesXToThe8nSaid : Prop := fnShiftIsTimesXToThe8nRow.holds Try.pinned (OpenSpec.ofChange fnShiftIsTimesXToThe8nSpec)

/-- ITS FALSE NEIGHBOUR: 'it returns false'. Refute it at one input. -/
def fnShiftIsTimesXToThe8nWrong : ChangeSpec := { name := "fnShiftIsTimesXToThe8n", fn := fun _ => fun
  | [d1, d2, d3, d4] => { results := [.lit (.bool false)], args := [d1, d2, d3, d4] }
  | _ => none }
def FnShiftIsTimesXToThe8nWrongFalsely : Prop := fnShiftIsTimesXToThe8nRow.holds Try.pinned (OpenSpec.ofChange fnShiftIsTimesXToThe8nWrong)

/-- 'zzlaws_internal_checksum_b1.FnShiftCombinesCRCs': WHATEVER THE INPUT: true; the input reads as it did. -/
def fnShiftCombinesCRCsSpec : ChangeSpec := { name := "fnShiftCombinesCRCs", fn := fun _ => fun
  | [d1, d2, d3, d4] => { results := [.lit (.bool true)], args := [d1, d2, d3, d4] }
  | _ => none }
def fnShiftCombinesCRCsRow : OpenClaim := { program := "qxb6003627a", sum := "a7ec12bc62a05d4a3d8a907d4c2661da3ebc165d06fe9302caa5496139359c0d", func := "example.com/branches-over-buckets/branches-over-buckets/zzlaws_internal_checksum_b1.FnShiftCombinesCRCs", spec := "fnShiftCombinesCRCs", apart := false }
def FnShiftCombinesCRCsSaid : Prop := fnShiftCombinesCRCsRow.holds Try.pinned (OpenSpec.ofChange fnShiftCombinesCRCsSpec)

/-- ITS FALSE NEIGHBOUR: 'it returns false'. Refute it at one input. -/
def fnShiftCombinesCRCsWrong : ChangeSpec := { name := "fnShiftCombinesCRCs", fn := fun _ => fun
  | [d1, d2, d3, d4] => { results := [.lit (.bool false)], args := [d1, d2, d3, d4] }
  | _ => none }
def FnShiftCombinesCRCsWrongFalsely : Prop := fnShiftCombinesCRCsRow.holds Try.pinned (OpenSpec.ofChange fnShiftCombinesCRCsWrong)

end Rows
end Go.Proofs.Qxb6003627a
