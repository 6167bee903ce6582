/-
  No cell of these rows narrows 'for every input' (looked for: loops, veiled, ifaces, maps, wideKeys, modest, calm, conditions, laid).
  DERIVED. THE GIVEN ROWS OF THIS SEAT. 6 by the template 'for every input the law returns true; each argument reads behind the call as it read before'; 0 by the template 'total and deterministic' (their statements: YoebfwTotals.lean).
  GIVEN WITH THE SEED: the statements are not yours to turn. If you find one false, say at which input.
  Laid BY PROGRAM, IN A SANDBOX (cutbox-rows.mjs): the forced cells as the released guide's own fill.sh prints them over the translation 9ffa0f8135e30dc2… (all of the seat's roots in one cut). By AI agents, Wed Nov 11 2026. No macro, syntax, notation, axiom, sorry.
-/
import Derived.Test.YoebfwChecked
import GoSem.Claim
import GoSem.ClaimJoined
import GoSem.ClaimMapViews
import Derived.JoinedTies
import Derived.KernelRfl
namespace Go.Proofs.Yoebfw
/- THE CELL 'sum', in the pinned program and in every row, IS THE sha256 OF THE DUMP (.gsa) THAT YoebfwProg.lean LOADS. Nothing in Lean hashes anything: it is a label: what it is worth is what the hold of that sum in a sandbox is worth. -/
noncomputable def Ebfg.pinned : Pinned := { name := "yoebfw", sum := "9ffa0f8135e30dc2821b19e84ec03f5677518d6e5b3ce70550ec4ac96af49d44", checked := Ebfg.checked }
namespace Rows
def none {H : Type} : Left H := { results := [], args := [] }

/-- 'zzlaws_root_b1.FnCharCopyIsExactValue': WHATEVER THE INPUT: true; the input reads as it did. -/
def fnCharCopyIsExactValueSpec : ChangeSpec := { name := "fnCharCopyIsExactValue", fn := fun _ => fun
  | [d1, d2] => { results := [.lit (.bool true)], args := [d1, d2] }
  | _ => none }
def fnCharCopyIsExactValueRow : OpenClaim := { program := "yoebfw", sum := "9ffa0f8135e30dc2821b19e84ec03f5677518d6e5b3ce70550ec4ac96af49d44", func := "github.com/d5/tengo/v2/zzlaws_root_b1.FnCharCopyIsExactValue", spec := "fnCharCopyIsExactValue", unfollowed := true, recurses := true, apart := false }
def FnCharCopyIsExactValueSaid : Prop := fnCharCopyIsExactValueRow.holds Ebfg.pinned (OpenSpec.ofChange fnCharCopyIsExactValueSpec)

/-- ITS FALSE NEIGHBOUR: 'it returns false'. Refute it at one input. -/
def fnCharCopyIsExactValueWrong : ChangeSpec := { name := "fnCharCopyIsExactValue", fn := fun _ => fun
  | [d1, d2] => { results := [.lit (.bool false)], args := [d1, d2] }
  | _ => none }
def FnCharCopyIsExactValueWrongFalsely : Prop := fnCharCopyIsExactValueRow.holds Ebfg.pinned (OpenSpec.ofChange fnCharCopyIsExactValueWrong)

/-- 'zzlaws_root_b1.FnCompiledFunctionTypeNameKeptByCopy': WHATEVER THE INPUT: true; the input reads as it did. -/
def fnCompiledFunctionTypeNameKeptByCopySpec : ChangeSpec := { name := "fnCompiledFunctionTypeNameKeptByCopy", fn := fun _ => fun
  | [d1, d2, d3, d4] => { results := [.lit (.bool true)], args := [d1, d2, d3, d4] }
  | _ => none }
def fnCompiledFunctionTypeNameKeptByCopyRow : OpenClaim := { program := "yoebfw", sum := "9ffa0f8135e30dc2821b19e84ec03f5677518d6e5b3ce70550ec4ac96af49d44", func := "github.com/d5/tengo/v2/zzlaws_root_b1.FnCompiledFunctionTypeNameKeptByCopy", spec := "fnCompiledFunctionTypeNameKeptByCopy", unfollowed := true, recurses := true, apart := false }
def FnCompiledFunctionTypeNameKeptByCopySaid : Prop := fnCompiledFunctionTypeNameKeptByCopyRow.holds Ebfg.pinned (OpenSpec.ofChange fnCompiledFunctionTypeNameKeptByCopySpec)

/-- ITS FALSE NEIGHBOUR: 'it returns false'. Refute it at one input. -/
def fnCompiledFunctionTypeNameKeptByCopyWrong : ChangeSpec := { name := "fnCompiledFunctionTypeNameKeptByCopy", fn := fun _ => fun
  | [d1, d2, d3, d4] => { results := [.lit (.bool false)], args := [d1, d2, d3, d4] }
  | _ => none }
def FnCompiledFunctionTypeNameKeptByCopyWrongFalsely : Prop := fnCompiledFunctionTypeNameKeptByCopyRow.holds Ebfg.pinned (OpenSpec.ofChange fnCompiledFunctionTypeNameKeptByCopyWrong)

/-- 'zzlaws_root_b1.FnCharCopyIsIndependent': WHATEVER THE INPUT: true; the input reads as it did. -/
def fnCharCopyIsIndependentSpec : ChangeSpec := { name := "fnCharCopyIsIndependent", fn := fun _ => fun
  | [d] => { results := [.lit (.bool true)], args := [d] }
  | _ => none }
def fnCharCopyIsIndependentRow : OpenClaim := { program := "yoebfw", sum := "9ffa0f8135e30dc2821b19e84ec03f5677518d6e5b3ce70550ec4ac96af49d44", func := "github.com/d5/tengo/v2/zzlaws_root_b1.FnCharCopyIsIndependent", spec := "fnCharCopyIsIndependent", unfollowed := true, recurses := true, apart := false }
def FnCharCopyIsIndependentSaid : Prop := fnCharCopyIsIndependentRow.holds Ebfg.pinned (OpenSpec.ofChange fnCharCopyIsIndependentSpec)

/-- ITS FALSE NEIGHBOUR: 'it returns false'. Refute it at one input. -/
def fnCharCopyIsIndependentWrong : ChangeSpec := { name := "fnCharCopyIsIndependent", fn := fun _ => fun
  | [d] => { results := [.lit (.bool false)], args := [d] }
  | _ => none }
def FnCharCopyIsIndependentWrongFalsely : Prop := fnCharCopyIsIndependentRow.holds Ebfg.pinned (OpenSpec.ofChange fnCharCopyIsIndependentWrong)

/-- 'zzlaws_root_b1.FnCharEqualsIsValueEquality': WHATEVER THE INPUT: true; the input reads as it did. -/
def fnCharEqualsIsValueEqualitySpec : ChangeSpec := { name := "fnCharEqualsIsValueEquality", fn := fun _ => fun
  | [d1, d2] => { results := [.lit (.bool true)], args := [d1, d2] }
  | _ => none }
def fnCharEqualsIsValueEqualityRow : OpenClaim := { program := "yoebfw", sum := "9ffa0f8135e30dc2821b19e84ec03f5677518d6e5b3ce70550ec4ac96af49d44", func := "github.com/d5/tengo/v2/zzlaws_root_b1.FnCharEqualsIsValueEquality", spec := "fnCharEqualsIsValueEquality", apart := false }
def FnCharEqualsIsValueEqualitySaid : Prop := fnCharEqualsIsValueEqualityRow.holds Ebfg.pinned (OpenSpec.ofChange fnCharEqualsIsValueEqualitySpec)

/-- ITS FALSE NEIGHBOUR: 'it returns false'. Refute it at one input. -/
def fnCharEqualsIsValueEqualityWrong : ChangeSpec := { name := "fnCharEqualsIsValueEquality", fn := fun _ => fun
  | [d1, d2] => { results := [.lit (.bool false)], args := [d1, d2] }
  | _ => none }
def FnCharEqualsIsValueEqualityWrongFalsely : Prop := fnCharEqualsIsValueEqualityRow.holds Ebfg.pinned (OpenSpec.ofChange fnCharEqualsIsValueEqualityWrong)

/-- 'zzlaws_root_b1.FnCharEqualsRefusesOtherTypes': WHATEVER THE INPUT: true; the input reads as it did. -/
def fnCharEqualsRefusesOtherTypesSpec : ChangeSpec := { name := "fnCharEqualsRefusesOtherTypes", fn := fun _ => fun
  | [d] => { results := [.lit (.bool true)], args := [d] }
  | _ => none }
def fnCharEqualsRefusesOtherTypesRow : OpenClaim := { program := "yoebfw", sum := "9ffa0f8135e30dc2821b19e84ec03f5677518d6e5b3ce70550ec4ac96af49d44", func := "github.com/d5/tengo/v2/zzlaws_root_b1.FnCharEqualsRefusesOtherTypes", spec := "fnCharEqualsRefusesOtherTypes", apart := false }
def FnCharEqualsRefusesOtherTypesSaid : Prop := fnCharEqualsRefusesOtherTypesRow.holds Ebfg.pinned (OpenSpec.ofChange fnCharEqualsRefusesOtherTypesSpec)

/-- ITS FALSE NEIGHBOUR: 'it returns false'. Refute it at one input. -/
def fnCharEqualsRefusesOtherTypesWrong : ChangeSpec := { name := "fnCharEqualsRefusesOtherTypes", fn := fun _ => fun
  | [d] => { results := [.lit (.bool false)], args := [d] }
  | _ => none }
def FnCharEqualsRefusesOtherTypesWrongFalsely : Prop := fnCharEqualsRefusesOtherTypesRow.holds Ebfg.pinned (OpenSpec.ofChange fnCharEqualsRefusesOtherTypesWrong)

/-- 'zzlaws_root_b1.FnCharIsFalsyAgreesWithIntAndEquals': WHATEVER THE INPUT: true; the input reads as it did. -/
def fnCharIsFalsyAgreesWithIntAndEqualsSpec : ChangeSpec := { name := "fnCharIsFalsyAgreesWithIntAndEquals", fn := fun _ => fun
  | [d] => { results := [.lit (.bool true)], args := [d] }
  | _ => none }
def fnCharIsFalsyAgreesWithIntAndEqualsRow : OpenClaim := { program := "yoebfw", sum := "9ffa0f8135e30dc2821b19e84ec03f5677518d6e5b3ce70550ec4ac96af49d44", func := "github.com/d5/tengo/v2/zzlaws_root_b1.FnCharIsFalsyAgreesWithIntAndEquals", spec := "fnCharIsFalsyAgreesWithIntAndEquals", unfollowed := true, recurses := true, apart := false }
def FnCharIsFalsyAgreesWithIntAndEqualsSaid : Prop := fnCharIsFalsyAgreesWithIntAndEqualsRow.holds Ebfg.pinned (OpenSpec.ofChange fnCharIsFalsyAgreesWithIntAndEqualsSpec)

/-- ITS FALSE NEIGHBOUR: 'it returns false'. Refute it at one input. -/
def fnCharIsFalsyAgreesWithIntAndEqualsWrong : ChangeSpec := { name := "fnCharIsFalsyAgreesWithIntAndEquals", fn := fun _ => fun
  | [d] => { results := [.lit (.bool false)], args := [d] }
  | _ => none }
def FnCharIsFalsyAgreesWithIntAndEqualsWrongFalsely : Prop := fnCharIsFalsyAgreesWithIntAndEqualsRow.holds Ebfg.pinned (OpenSpec.ofChange fnCharIsFalsyAgreesWithIntAndEqualsWrong)

end Rows
end Go.Proofs.Yoebfw
