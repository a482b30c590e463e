/-
  No cell of these rows narrows 'for every input' (looked for: loops, veiled, ifaces, maps, wideKeys, modest, calm, conditions, laid).
  DERIVED. THE GIVEN ROWS OF THIS SEAT. 4 by the template 'for every input the law returns true; each argument reads behind the call as it read before'; 0 by the template 'total and deterministic' (their statements: YoeepwTotals.lean).
  GIVEN WITH THE SEED: the statements are not yours to turn. If you find one false, say at which input.
  Laid BY PROGRAM, IN A SANDBOX (cutbox-rows.mjs): the forced cells as the released guide's own fill.sh prints them over the translation 663f262be587aacf… (all of the seat's roots in one cut). By AI agents, Wed Nov 11 2026. No macro, syntax, notation, axiom, sorry.
-/
import Derived.Test.YoeepwChecked
import GoSem.Claim
import GoSem.ClaimJoined
import GoSem.ClaimMapViews
import Derived.JoinedTies
import Derived.KernelRfl
namespace Go.Proofs.Yoeepw
/- THE CELL 'sum', in the pinned program and in every row, IS THE sha256 OF THE DUMP (.gsa) THAT YoeepwProg.lean LOADS. Nothing in Lean hashes anything: it is a label: what it is worth is what the hold of that sum in a sandbox is worth. -/
noncomputable def Eepg.pinned : Pinned := { name := "yoeepw", sum := "663f262be587aacf3da76e098fe02a162f24c22348af28e8c7248182cd311af6", checked := Eepg.checked }
namespace Rows
def none {H : Type} : Left H := { results := [], args := [] }

/-- 'zzlaws_root_b3.FnImportAgreesWithAsImmutableMap': WHATEVER THE INPUT: true; the input reads as it did. -/
def fnImportAgreesWithAsImmutableMapSpec : ChangeSpec := { name := "fnImportAgreesWithAsImmutableMap", fn := fun _ => fun
  | [d1, d2, d3] => { results := [.lit (.bool true)], args := [d1, d2, d3] }
  | _ => none }
def fnImportAgreesWithAsImmutableMapRow : OpenClaim := { program := "yoeepw", sum := "663f262be587aacf3da76e098fe02a162f24c22348af28e8c7248182cd311af6", func := "github.com/d5/tengo/v2/zzlaws_root_b3.FnImportAgreesWithAsImmutableMap", spec := "fnImportAgreesWithAsImmutableMap", unfollowed := true, recurses := true, apart := false }
def FnImportAgreesWithAsImmutableMapSaid : Prop := fnImportAgreesWithAsImmutableMapRow.holds Eepg.pinned (OpenSpec.ofChange fnImportAgreesWithAsImmutableMapSpec)

/-- ITS FALSE NEIGHBOUR: 'it returns false'. Refute it at one input. -/
def fnImportAgreesWithAsImmutableMapWrong : ChangeSpec := { name := "fnImportAgreesWithAsImmutableMap", fn := fun _ => fun
  | [d1, d2, d3] => { results := [.lit (.bool false)], args := [d1, d2, d3] }
  | _ => none }
def FnImportAgreesWithAsImmutableMapWrongFalsely : Prop := fnImportAgreesWithAsImmutableMapRow.holds Eepg.pinned (OpenSpec.ofChange fnImportAgreesWithAsImmutableMapWrong)

/-- 'zzlaws_root_b3.FnImportNameDecidesEquality': WHATEVER THE INPUT: true; the input reads as it did. -/
def fnImportNameDecidesEqualitySpec : ChangeSpec := { name := "fnImportNameDecidesEquality", fn := fun _ => fun
  | [d1, d2, d3, d4] => { results := [.lit (.bool true)], args := [d1, d2, d3, d4] }
  | _ => none }
def fnImportNameDecidesEqualityRow : OpenClaim := { program := "yoeepw", sum := "663f262be587aacf3da76e098fe02a162f24c22348af28e8c7248182cd311af6", func := "github.com/d5/tengo/v2/zzlaws_root_b3.FnImportNameDecidesEquality", spec := "fnImportNameDecidesEquality", unfollowed := true, recurses := true, apart := false }
def FnImportNameDecidesEqualitySaid : Prop := fnImportNameDecidesEqualityRow.holds Eepg.pinned (OpenSpec.ofChange fnImportNameDecidesEqualitySpec)

/-- ITS FALSE NEIGHBOUR: 'it returns false'. Refute it at one input. -/
def fnImportNameDecidesEqualityWrong : ChangeSpec := { name := "fnImportNameDecidesEquality", fn := fun _ => fun
  | [d1, d2, d3, d4] => { results := [.lit (.bool false)], args := [d1, d2, d3, d4] }
  | _ => none }
def FnImportNameDecidesEqualityWrongFalsely : Prop := fnImportNameDecidesEqualityRow.holds Eepg.pinned (OpenSpec.ofChange fnImportNameDecidesEqualityWrong)

/-- 'zzlaws_root_b3.FnAsImmutableMapExact': WHATEVER THE INPUT: true; the input reads as it did. -/
def fnAsImmutableMapExactSpec : ChangeSpec := { name := "fnAsImmutableMapExact", fn := fun _ => fun
  | [d1, d2, d3] => { results := [.lit (.bool true)], args := [d1, d2, d3] }
  | _ => none }
def fnAsImmutableMapExactRow : OpenClaim := { program := "yoeepw", sum := "663f262be587aacf3da76e098fe02a162f24c22348af28e8c7248182cd311af6", func := "github.com/d5/tengo/v2/zzlaws_root_b3.FnAsImmutableMapExact", spec := "fnAsImmutableMapExact", unfollowed := true, recurses := true, apart := false }
def FnAsImmutableMapExactSaid : Prop := fnAsImmutableMapExactRow.holds Eepg.pinned (OpenSpec.ofChange fnAsImmutableMapExactSpec)

/-- ITS FALSE NEIGHBOUR: 'it returns false'. Refute it at one input. -/
def fnAsImmutableMapExactWrong : ChangeSpec := { name := "fnAsImmutableMapExact", fn := fun _ => fun
  | [d1, d2, d3] => { results := [.lit (.bool false)], args := [d1, d2, d3] }
  | _ => none }
def FnAsImmutableMapExactWrongFalsely : Prop := fnAsImmutableMapExactRow.holds Eepg.pinned (OpenSpec.ofChange fnAsImmutableMapExactWrong)

/-- 'zzlaws_root_b3.FnAsImmutableMapLeavesModuleAndCopiesFresh': WHATEVER THE INPUT: true; the input reads as it did. -/
def fnAsImmutableMapLeavesModuleAndCopiesFreshSpec : ChangeSpec := { name := "fnAsImmutableMapLeavesModuleAndCopiesFresh", fn := fun _ => fun
  | [d1, d2, d3] => { results := [.lit (.bool true)], args := [d1, d2, d3] }
  | _ => none }
def fnAsImmutableMapLeavesModuleAndCopiesFreshRow : OpenClaim := { program := "yoeepw", sum := "663f262be587aacf3da76e098fe02a162f24c22348af28e8c7248182cd311af6", func := "github.com/d5/tengo/v2/zzlaws_root_b3.FnAsImmutableMapLeavesModuleAndCopiesFresh", spec := "fnAsImmutableMapLeavesModuleAndCopiesFresh", unfollowed := true, recurses := true, apart := false }
def FnAsImmutableMapLeavesModuleAndCopiesFreshSaid : Prop := fnAsImmutableMapLeavesModuleAndCopiesFreshRow.holds Eepg.pinned (OpenSpec.ofChange fnAsImmutableMapLeavesModuleAndCopiesFreshSpec)

/-- ITS FALSE NEIGHBOUR: 'it returns false'. Refute it at one input. -/
def fnAsImmutableMapLeavesModuleAndCopiesFreshWrong : ChangeSpec := { name := "fnAsImmutableMapLeavesModuleAndCopiesFresh", fn := fun _ => fun
  | [d1, d2, d3] => { results := [.lit (.bool false)], args := [d1, d2, d3] }
  | _ => none }
def FnAsImmutableMapLeavesModuleAndCopiesFreshWrongFalsely : Prop := fnAsImmutableMapLeavesModuleAndCopiesFreshRow.holds Eepg.pinned (OpenSpec.ofChange fnAsImmutableMapLeavesModuleAndCopiesFreshWrong)

end Rows
end Go.Proofs.Yoeepw
