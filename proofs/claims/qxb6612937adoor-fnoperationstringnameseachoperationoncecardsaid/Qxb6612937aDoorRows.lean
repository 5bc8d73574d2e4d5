/-
  NARROWER THAN 'FOR EVERY INPUT', by the rows' own cells (each row's printed sentence says how): FnOperationStringNamesEachOperationOnce: laid · FnOperationStringExecuteVariantsShareSuffixes: laid.
  DERIVED. THE GIVEN ROWS OF THIS SEAT. 2 by the template 'for every input the law returns true; each argument reads behind the call as it read before'; 0 by the template 'total and deterministic' (their statements: Qxb6612937aDoorTotals.lean).
  GIVEN WITH THE SEED: the statements are not yours to turn. If you find one false, say at which input.
  Laid BY PROGRAM, IN A SANDBOX (cutbox-rows.mjs): the forced cells as the released guide's own fill.sh prints them over the translation 5a55736b400553ff… (all of the seat's roots in one cut). By AI agents, Wed Nov 11 2026. No macro, syntax, notation, axiom, sorry.
-/
import Derived.Test.Qxb6612937aDoorChecked
import GoSem.Claim
import GoSem.ClaimJoined
import GoSem.ClaimMapViews
import Derived.JoinedTies
import Derived.KernelRfl
namespace Go.Proofs.Qxb6612937aDoor
/- THE CELL 'sum', in the pinned program and in every row, IS THE sha256 OF THE DUMP (.gsa) THAT Qxb6612937aDoorProg.lean LOADS. Nothing in Lean hashes anything: it is a label: what it is worth is what the hold of that sum in a sandbox is worth. -/
noncomputable def Tryd.pinned : Pinned := { name := "qxb6612937adoor", sum := "5a55736b400553ff4769aae4641c7ced198b607ae41a84c82add083bc4d54067", checked := Tryd.checked }
namespace Rows
def none {H : Type} : Left H := { results := [], args := [] }

/- WHAT THE LISTED PACKAGE-LEVEL VARIABLES READ AS WHEN THE CALL BEGINS. Each datum BY PROGRAM (the guide's laid-datum.mjs) off the statement by which the dump's own 'gosem.cut.vars' lays the variable. In a bare row this is a premise. The card (Qxb6612937aDoorCards.lean) ties it to the program's text. -/
def laid_example_com_mlinzi_mlinzi_internal_policy_operations {H : Type} : DataW H := .agg [.agg [.lit (.string []), .lit (.int .u8 0), .lit (.bool false), .lit (.bool false), .lit (.bool false)], .agg [.lit (.string [102, 105, 108, 101, 95, 114, 101, 97, 100]), .lit (.int .u8 0), .lit (.bool false), .lit (.bool true), .lit (.bool false)], .agg [.lit (.string [102, 105, 108, 101, 95, 119, 114, 105, 116, 101]), .lit (.int .u8 0), .lit (.bool false), .lit (.bool true), .lit (.bool false)], .agg [.lit (.string [102, 105, 108, 101, 95, 99, 114, 101, 97, 116, 101]), .lit (.int .u8 0), .lit (.bool false), .lit (.bool false), .lit (.bool false)], .agg [.lit (.string [102, 105, 108, 101, 95, 117, 110, 108, 105, 110, 107]), .lit (.int .u8 0), .lit (.bool false), .lit (.bool true), .lit (.bool false)], .agg [.lit (.string [102, 105, 108, 101, 95, 108, 105, 110, 107]), .lit (.int .u8 0), .lit (.bool false), .lit (.bool true), .lit (.bool false)], .agg [.lit (.string [102, 105, 108, 101, 95, 115, 101, 116, 97, 116, 116, 114]), .lit (.int .u8 0), .lit (.bool false), .lit (.bool true), .lit (.bool false)], .agg [.lit (.string [100, 105, 114, 95, 114, 101, 97, 100]), .lit (.int .u8 0), .lit (.bool false), .lit (.bool false), .lit (.bool false)], .agg [.lit (.string [100, 105, 114, 95, 99, 114, 101, 97, 116, 101]), .lit (.int .u8 0), .lit (.bool false), .lit (.bool false), .lit (.bool false)], .agg [.lit (.string [100, 105, 114, 95, 114, 101, 109, 111, 118, 101]), .lit (.int .u8 0), .lit (.bool false), .lit (.bool false), .lit (.bool false)], .agg [.lit (.string [102, 105, 108, 101, 95, 101, 120, 101, 99, 117, 116, 101]), .lit (.int .u8 1), .lit (.bool false), .lit (.bool true), .lit (.bool false)], .agg [.lit (.string [102, 105, 108, 101, 95, 101, 120, 101, 99, 117, 116, 101, 95, 108, 111, 97, 100, 95, 112, 114, 111, 102, 105, 108, 101]), .lit (.int .u8 2), .lit (.bool false), .lit (.bool true), .lit (.bool false)], .agg [.lit (.string [102, 105, 108, 101, 95, 101, 120, 101, 99, 117, 116, 101, 95, 115, 104, 101, 108, 108]), .lit (.int .u8 3), .lit (.bool false), .lit (.bool true), .lit (.bool false)], .agg [.lit (.string [102, 105, 108, 101, 95, 101, 120, 101, 99, 117, 116, 101, 95, 97, 115, 95, 99, 117, 114, 114, 101, 110, 116, 95, 97, 112, 112]), .lit (.int .u8 4), .lit (.bool false), .lit (.bool true), .lit (.bool false)], .agg [.lit (.string [97, 112, 112, 108, 105, 99, 97, 116, 105, 111, 110, 95, 101, 120, 101, 99, 117, 116, 101]), .lit (.int .u8 1), .lit (.bool true), .lit (.bool true), .lit (.bool false)], .agg [.lit (.string [97, 112, 112, 108, 105, 99, 97, 116, 105, 111, 110, 95, 101, 120, 101, 99, 117, 116, 101, 95, 108, 111, 97, 100, 95, 112, 114, 111, 102, 105, 108, 101]), .lit (.int .u8 2), .lit (.bool true), .lit (.bool true), .lit (.bool false)], .agg [.lit (.string [97, 112, 112, 108, 105, 99, 97, 116, 105, 111, 110, 95, 101, 120, 101, 99, 117, 116, 101, 95, 115, 104, 101, 108, 108]), .lit (.int .u8 3), .lit (.bool true), .lit (.bool true), .lit (.bool false)], .agg [.lit (.string [110, 101, 116, 119, 111, 114, 107, 95, 111, 117, 116, 103, 111, 105, 110, 103]), .lit (.int .u8 0), .lit (.bool false), .lit (.bool false), .lit (.bool true)], .agg [.lit (.string [110, 101, 116, 119, 111, 114, 107, 95, 105, 110, 99, 111, 109, 105, 110, 103]), .lit (.int .u8 0), .lit (.bool false), .lit (.bool false), .lit (.bool true)]]

/-- 'zzlaws_internal_policy_b1.FnOperationStringNamesEachOperationOnce': WHATEVER THE INPUT: true; the input reads as it did. -/
def fnOperationStringNamesEachOperationOnceSpec : ChangeSpec := { name := "fnOperationStringNamesEachOperationOnce", vars := ["example.com/mlinzi/mlinzi/internal/policy.operations"], fn := fun _ => fun
  | [d1, d2, g1] => { results := [.lit (.bool true)], args := [d1, d2], vars := [g1] }
  | _ => none }
def fnOperationStringNamesEachOperationOnceRow : OpenClaim := { program := "qxb6612937adoor", sum := "5a55736b400553ff4769aae4641c7ced198b607ae41a84c82add083bc4d54067", func := "example.com/mlinzi/mlinzi/zzlaws_internal_policy_b1.FnOperationStringNamesEachOperationOnce", spec := "fnOperationStringNamesEachOperationOnce", named := ["example.com/mlinzi/mlinzi/internal/policy.operations"], apart := false, laid := [("example.com/mlinzi/mlinzi/internal/policy.operations", laid_example_com_mlinzi_mlinzi_internal_policy_operations)] }
def FnOperationStringNamesEachOperationOnceSaid : Prop := fnOperationStringNamesEachOperationOnceRow.holds Tryd.pinned (OpenSpec.ofChange fnOperationStringNamesEachOperationOnceSpec)

/-- ITS FALSE NEIGHBOUR: 'it returns false'. Refute it at one input. -/
def fnOperationStringNamesEachOperationOnceWrong : ChangeSpec := { name := "fnOperationStringNamesEachOperationOnce", vars := ["example.com/mlinzi/mlinzi/internal/policy.operations"], fn := fun _ => fun
  | [d1, d2, g1] => { results := [.lit (.bool false)], args := [d1, d2], vars := [g1] }
  | _ => none }
def FnOperationStringNamesEachOperationOnceWrongFalsely : Prop := fnOperationStringNamesEachOperationOnceRow.holds Tryd.pinned (OpenSpec.ofChange fnOperationStringNamesEachOperationOnceWrong)

/-- 'zzlaws_internal_policy_b1.FnOperationStringExecuteVariantsShareSuffixes': WHATEVER THE INPUT: true; the input reads as it did. -/
def fnOperationStringExecuteVariantsShareSuffixesSpec : ChangeSpec := { name := "fnOperationStringExecuteVariantsShareSuffixes", vars := ["example.com/mlinzi/mlinzi/internal/policy.operations"], fn := fun _ => fun
  | [d, g1] => { results := [.lit (.bool true)], args := [d], vars := [g1] }
  | _ => none }
def fnOperationStringExecuteVariantsShareSuffixesRow : OpenClaim := { program := "qxb6612937adoor", sum := "5a55736b400553ff4769aae4641c7ced198b607ae41a84c82add083bc4d54067", func := "example.com/mlinzi/mlinzi/zzlaws_internal_policy_b1.FnOperationStringExecuteVariantsShareSuffixes", spec := "fnOperationStringExecuteVariantsShareSuffixes", named := ["example.com/mlinzi/mlinzi/internal/policy.operations"], apart := false, laid := [("example.com/mlinzi/mlinzi/internal/policy.operations", laid_example_com_mlinzi_mlinzi_internal_policy_operations)] }
def FnOperationStringExecuteVariantsShareSuffixesSaid : Prop := fnOperationStringExecuteVariantsShareSuffixesRow.holds Tryd.pinned (OpenSpec.ofChange fnOperationStringExecuteVariantsShareSuffixesSpec)

/-- ITS FALSE NEIGHBOUR: 'it returns false'. Refute it at one input. -/
def fnOperationStringExecuteVariantsShareSuffixesWrong : ChangeSpec := { name := "fnOperationStringExecuteVariantsShareSuffixes", vars := ["example.com/mlinzi/mlinzi/internal/policy.operations"], fn := fun _ => fun
  | [d, g1] => { results := [.lit (.bool false)], args := [d], vars := [g1] }
  | _ => none }
def FnOperationStringExecuteVariantsShareSuffixesWrongFalsely : Prop := fnOperationStringExecuteVariantsShareSuffixesRow.holds Tryd.pinned (OpenSpec.ofChange fnOperationStringExecuteVariantsShareSuffixesWrong)

end Rows
end Go.Proofs.Qxb6612937aDoor
