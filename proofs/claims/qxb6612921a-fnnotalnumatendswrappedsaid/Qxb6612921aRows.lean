/-
  No cell of these rows narrows 'for every input' (looked for: loops, veiled, ifaces, maps, wideKeys, modest, calm, conditions, laid).
  DERIVED. THE GIVEN ROWS OF THIS SEAT. 2 by the template 'for every input the law returns true; each argument reads behind the call as it read before'; 0 by the template 'total and deterministic' (their statements: Qxb6612921aTotals.lean).
  GIVEN WITH THE SEED: the statements are not yours to turn. If you find one false, say at which input.
  Laid BY PROGRAM, IN A SANDBOX (cutbox-rows.mjs): the forced cells as the released guide's own fill.sh prints them over the translation 48e32d168545ff88… (all of the seat's roots in one cut). By AI agents, Wed Nov 11 2026. No macro, syntax, notation, axiom, sorry.
-/
import Derived.Test.Qxb6612921aChecked
import GoSem.Claim
import GoSem.ClaimJoined
import GoSem.ClaimMapViews
import Derived.JoinedTies
import Derived.KernelRfl
namespace Go.Proofs.Qxb6612921a
/- THE CELL 'sum', in the pinned program and in every row, IS THE sha256 OF THE DUMP (.gsa) THAT Qxb6612921aProg.lean LOADS. Nothing in Lean hashes anything: it is a label: what it is worth is what the hold of that sum in a sandbox is worth. -/
noncomputable def Try.pinned : Pinned := { name := "qxb6612921a", sum := "48e32d168545ff88afe0d32dcb35af81fbf4d7660a0b20beea063625aca022c8", checked := Try.checked }
namespace Rows
def none {H : Type} : Left H := { results := [], args := [] }

/-- 'zzlaws_root_b1.FnNotAlnumAtEndsJoin': WHATEVER THE INPUT: true; the input reads as it did. -/
def fnNotAlnumAtEndsJoinSpec : ChangeSpec := { name := "fnNotAlnumAtEndsJoin", fn := fun _ => fun
  | [d1, d2] => { results := [.lit (.bool true)], args := [d1, d2] }
  | _ => none }
def fnNotAlnumAtEndsJoinRow : OpenClaim := { program := "qxb6612921a", sum := "48e32d168545ff88afe0d32dcb35af81fbf4d7660a0b20beea063625aca022c8", func := "example.com/holdfast/holdfast/zzlaws_root_b1.FnNotAlnumAtEndsJoin", spec := "fnNotAlnumAtEndsJoin", apart := false }
def FnNotAlnumAtEndsJoinSaid : Prop := fnNotAlnumAtEndsJoinRow.holds Try.pinned (OpenSpec.ofChange fnNotAlnumAtEndsJoinSpec)

/-- ITS FALSE NEIGHBOUR: 'it returns false'. Refute it at one input. -/
def fnNotAlnumAtEndsJoinWrong : ChangeSpec := { name := "fnNotAlnumAtEndsJoin", fn := fun _ => fun
  | [d1, d2] => { results := [.lit (.bool false)], args := [d1, d2] }
  | _ => none }
def FnNotAlnumAtEndsJoinWrongFalsely : Prop := fnNotAlnumAtEndsJoinRow.holds Try.pinned (OpenSpec.ofChange fnNotAlnumAtEndsJoinWrong)

/-- 'zzlaws_root_b1.FnNotAlnumAtEndsWrapped': WHATEVER THE INPUT: true; the input reads as it did. -/
def fnNotAlnumAtEndsWrappedSpec : ChangeSpec := { name := "fnNotAlnumAtEndsWrapped", fn := fun _ => fun
  | [d1, d2] => { results := [.lit (.bool true)], args := [d1, d2] }
  | _ => none }
def fnNotAlnumAtEndsWrappedRow : OpenClaim := { program := "qxb6612921a", sum := "48e32d168545ff88afe0d32dcb35af81fbf4d7660a0b20beea063625aca022c8", func := "example.com/holdfast/holdfast/zzlaws_root_b1.FnNotAlnumAtEndsWrapped", spec := "fnNotAlnumAtEndsWrapped", apart := false }
def FnNotAlnumAtEndsWrappedSaid : Prop := fnNotAlnumAtEndsWrappedRow.holds Try.pinned (OpenSpec.ofChange fnNotAlnumAtEndsWrappedSpec)

/-- ITS FALSE NEIGHBOUR: 'it returns false'. Refute it at one input. -/
def fnNotAlnumAtEndsWrappedWrong : ChangeSpec := { name := "fnNotAlnumAtEndsWrapped", fn := fun _ => fun
  | [d1, d2] => { results := [.lit (.bool false)], args := [d1, d2] }
  | _ => none }
def FnNotAlnumAtEndsWrappedWrongFalsely : Prop := fnNotAlnumAtEndsWrappedRow.holds Try.pinned (OpenSpec.ofChange fnNotAlnumAtEndsWrappedWrong)

end Rows
end Go.Proofs.Qxb6612921a
