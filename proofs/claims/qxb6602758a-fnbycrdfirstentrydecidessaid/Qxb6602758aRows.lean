/-
  No cell of these rows narrows 'for every input' (looked for: loops, veiled, ifaces, maps, wideKeys, modest, calm, conditions, laid).
  DERIVED. THE GIVEN ROWS OF THIS SEAT. 4 by the template 'for every input the law returns true; each argument reads behind the call as it read before'; 0 by the template 'total and deterministic' (their statements: Qxb6602758aTotals.lean).
  GIVEN WITH THE SEED: the statements are not yours to turn. If you find one false, say at which input.
  Laid BY PROGRAM, IN A SANDBOX (cutbox-rows.mjs): the forced cells as the released guide's own fill.sh prints them over the translation 705872a3ddf6b060… (all of the seat's roots in one cut). By AI agents, Wed Nov 11 2026. No macro, syntax, notation, axiom, sorry.
-/
import Derived.Test.Qxb6602758aChecked
import GoSem.Claim
import GoSem.ClaimJoined
import GoSem.ClaimMapViews
import Derived.JoinedTies
import Derived.KernelRfl
namespace Go.Proofs.Qxb6602758a
/- THE CELL 'sum', in the pinned program and in every row, IS THE sha256 OF THE DUMP (.gsa) THAT Qxb6602758aProg.lean LOADS. Nothing in Lean hashes anything: it is a label: what it is worth is what the hold of that sum in a sandbox is worth. -/
noncomputable def Try.pinned : Pinned := { name := "qxb6602758a", sum := "705872a3ddf6b06015ca0d0ff4e6892d9b3554cd135ecbaf0d8c1ca9f9714977", checked := Try.checked }
namespace Rows
def none {H : Type} : Left H := { results := [], args := [] }

/-- 'zzlaws_internal_scan_b1.FnServedInsteadStep': WHATEVER THE INPUT: true; the input reads as it did. -/
def fnServedInsteadStepSpec : ChangeSpec := { name := "fnServedInsteadStep", fn := fun _ => fun
  | [d1, d2, d3, d4, d5, d6, d7] => { results := [.lit (.bool true)], args := [d1, d2, d3, d4, d5, d6, d7] }
  | _ => none }
def fnServedInsteadStepRow : OpenClaim := { program := "qxb6602758a", sum := "705872a3ddf6b06015ca0d0ff4e6892d9b3554cd135ecbaf0d8c1ca9f9714977", func := "example.com/cautious-deprecation/cautious-deprecation/zzlaws_internal_scan_b1.FnServedInsteadStep", spec := "fnServedInsteadStep", inPlace := ["internal/abi.NoEscape", "internal/bytealg.MakeNoZero"], apart := false }
def FnServedInsteadStepSaid : Prop := fnServedInsteadStepRow.holds Try.pinned (OpenSpec.ofChange fnServedInsteadStepSpec)

/-- ITS FALSE NEIGHBOUR: 'it returns false'. Refute it at one input. -/
def fnServedInsteadStepWrong : ChangeSpec := { name := "fnServedInsteadStep", fn := fun _ => fun
  | [d1, d2, d3, d4, d5, d6, d7] => { results := [.lit (.bool false)], args := [d1, d2, d3, d4, d5, d6, d7] }
  | _ => none }
def FnServedInsteadStepWrongFalsely : Prop := fnServedInsteadStepRow.holds Try.pinned (OpenSpec.ofChange fnServedInsteadStepWrong)

/-- 'zzlaws_internal_scan_b1.FnServedInsteadHangsOnlyOnServedNames': WHATEVER THE INPUT: true; the input reads as it did. -/
def fnServedInsteadHangsOnlyOnServedNamesSpec : ChangeSpec := { name := "fnServedInsteadHangsOnlyOnServedNames", fn := fun _ => fun
  | [d1, d2, d3, d4, d5, d6, d7] => { results := [.lit (.bool true)], args := [d1, d2, d3, d4, d5, d6, d7] }
  | _ => none }
def fnServedInsteadHangsOnlyOnServedNamesRow : OpenClaim := { program := "qxb6602758a", sum := "705872a3ddf6b06015ca0d0ff4e6892d9b3554cd135ecbaf0d8c1ca9f9714977", func := "example.com/cautious-deprecation/cautious-deprecation/zzlaws_internal_scan_b1.FnServedInsteadHangsOnlyOnServedNames", spec := "fnServedInsteadHangsOnlyOnServedNames", inPlace := ["internal/abi.NoEscape", "internal/bytealg.MakeNoZero"], apart := false }
def FnServedInsteadHangsOnlyOnServedNamesSaid : Prop := fnServedInsteadHangsOnlyOnServedNamesRow.holds Try.pinned (OpenSpec.ofChange fnServedInsteadHangsOnlyOnServedNamesSpec)

/-- ITS FALSE NEIGHBOUR: 'it returns false'. Refute it at one input. -/
def fnServedInsteadHangsOnlyOnServedNamesWrong : ChangeSpec := { name := "fnServedInsteadHangsOnlyOnServedNames", fn := fun _ => fun
  | [d1, d2, d3, d4, d5, d6, d7] => { results := [.lit (.bool false)], args := [d1, d2, d3, d4, d5, d6, d7] }
  | _ => none }
def FnServedInsteadHangsOnlyOnServedNamesWrongFalsely : Prop := fnServedInsteadHangsOnlyOnServedNamesRow.holds Try.pinned (OpenSpec.ofChange fnServedInsteadHangsOnlyOnServedNamesWrong)

/-- 'zzlaws_internal_scan_b1.FnByCRDFirstEntryDecides': WHATEVER THE INPUT: true; the input reads as it did. -/
def fnByCRDFirstEntryDecidesSpec : ChangeSpec := { name := "fnByCRDFirstEntryDecides", fn := fun _ => fun
  | [d1, d2, d3, d4, d5, d6, d7, d8] => { results := [.lit (.bool true)], args := [d1, d2, d3, d4, d5, d6, d7, d8] }
  | _ => none }
def fnByCRDFirstEntryDecidesRow : OpenClaim := { program := "qxb6602758a", sum := "705872a3ddf6b06015ca0d0ff4e6892d9b3554cd135ecbaf0d8c1ca9f9714977", func := "example.com/cautious-deprecation/cautious-deprecation/zzlaws_internal_scan_b1.FnByCRDFirstEntryDecides", spec := "fnByCRDFirstEntryDecides", inPlace := ["internal/abi.NoEscape", "internal/bytealg.MakeNoZero"], apart := false }
def FnByCRDFirstEntryDecidesSaid : Prop := fnByCRDFirstEntryDecidesRow.holds Try.pinned (OpenSpec.ofChange fnByCRDFirstEntryDecidesSpec)

/-- ITS FALSE NEIGHBOUR: 'it returns false'. Refute it at one input. -/
def fnByCRDFirstEntryDecidesWrong : ChangeSpec := { name := "fnByCRDFirstEntryDecides", fn := fun _ => fun
  | [d1, d2, d3, d4, d5, d6, d7, d8] => { results := [.lit (.bool false)], args := [d1, d2, d3, d4, d5, d6, d7, d8] }
  | _ => none }
def FnByCRDFirstEntryDecidesWrongFalsely : Prop := fnByCRDFirstEntryDecidesRow.holds Try.pinned (OpenSpec.ofChange fnByCRDFirstEntryDecidesWrong)

/-- 'zzlaws_internal_scan_b1.FnByCRDStatusByFirstEntry': WHATEVER THE INPUT: true; the input reads as it did. -/
def fnByCRDStatusByFirstEntrySpec : ChangeSpec := { name := "fnByCRDStatusByFirstEntry", fn := fun _ => fun
  | [d1, d2, d3, d4, d5, d6, d7, d8] => { results := [.lit (.bool true)], args := [d1, d2, d3, d4, d5, d6, d7, d8] }
  | _ => none }
def fnByCRDStatusByFirstEntryRow : OpenClaim := { program := "qxb6602758a", sum := "705872a3ddf6b06015ca0d0ff4e6892d9b3554cd135ecbaf0d8c1ca9f9714977", func := "example.com/cautious-deprecation/cautious-deprecation/zzlaws_internal_scan_b1.FnByCRDStatusByFirstEntry", spec := "fnByCRDStatusByFirstEntry", inPlace := ["internal/abi.NoEscape", "internal/bytealg.MakeNoZero"], apart := false }
def FnByCRDStatusByFirstEntrySaid : Prop := fnByCRDStatusByFirstEntryRow.holds Try.pinned (OpenSpec.ofChange fnByCRDStatusByFirstEntrySpec)

/-- ITS FALSE NEIGHBOUR: 'it returns false'. Refute it at one input. -/
def fnByCRDStatusByFirstEntryWrong : ChangeSpec := { name := "fnByCRDStatusByFirstEntry", fn := fun _ => fun
  | [d1, d2, d3, d4, d5, d6, d7, d8] => { results := [.lit (.bool false)], args := [d1, d2, d3, d4, d5, d6, d7, d8] }
  | _ => none }
def FnByCRDStatusByFirstEntryWrongFalsely : Prop := fnByCRDStatusByFirstEntryRow.holds Try.pinned (OpenSpec.ofChange fnByCRDStatusByFirstEntryWrong)

end Rows
end Go.Proofs.Qxb6602758a
