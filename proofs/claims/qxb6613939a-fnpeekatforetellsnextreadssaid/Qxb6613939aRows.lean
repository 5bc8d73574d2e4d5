/-
  No cell of these rows narrows 'for every input' (looked for: loops, veiled, ifaces, maps, wideKeys, modest, calm, conditions, laid).
  DERIVED. THE GIVEN ROWS OF THIS SEAT. 2 by the template 'for every input the law returns true; each argument reads behind the call as it read before'; 0 by the template 'total and deterministic' (their statements: Qxb6613939aTotals.lean).
  GIVEN WITH THE SEED: the statements are not yours to turn. If you find one false, say at which input.
  Laid BY PROGRAM, IN A SANDBOX (cutbox-rows.mjs): the forced cells as the released guide's own fill.sh prints them over the translation f3da4e22ad1d9800… (all of the seat's roots in one cut). By AI agents, Wed Nov 11 2026. No macro, syntax, notation, axiom, sorry.
-/
import Derived.Test.Qxb6613939aChecked
import GoSem.Claim
import GoSem.ClaimJoined
import GoSem.ClaimMapViews
import Derived.JoinedTies
import Derived.KernelRfl
namespace Go.Proofs.Qxb6613939a
/- THE CELL 'sum', in the pinned program and in every row, IS THE sha256 OF THE DUMP (.gsa) THAT Qxb6613939aProg.lean LOADS. Nothing in Lean hashes anything: it is a label: what it is worth is what the hold of that sum in a sandbox is worth. -/
noncomputable def Try.pinned : Pinned := { name := "qxb6613939a", sum := "f3da4e22ad1d9800558c299a0014697b953eaf857085d10b4b45b2fa86ad2418", checked := Try.checked }
namespace Rows
def none {H : Type} : Left H := { results := [], args := [] }

/-- 'zzlaws_rules_b1.FnPeekAtShiftsByOneAfterNext': WHATEVER THE INPUT: true; the input reads as it did. -/
def fnPeekAtShiftsByOneAfterNextSpec : ChangeSpec := { name := "fnPeekAtShiftsByOneAfterNext", fn := fun _ => fun
  | [d1, d2, d3, d4, d5] => { results := [.lit (.bool true)], args := [d1, d2, d3, d4, d5] }
  | _ => none }
def fnPeekAtShiftsByOneAfterNextRow : OpenClaim := { program := "qxb6613939a", sum := "f3da4e22ad1d9800558c299a0014697b953eaf857085d10b4b45b2fa86ad2418", func := "example.com/ruleweave/ruleweave/zzlaws_rules_b1.FnPeekAtShiftsByOneAfterNext", spec := "fnPeekAtShiftsByOneAfterNext", apart := false }
def FnPeekAtShiftsByOneAfterNextSaid : Prop := fnPeekAtShiftsByOneAfterNextRow.holds Try.pinned (OpenSpec.ofChange fnPeekAtShiftsByOneAfterNextSpec)

/-- ITS FALSE NEIGHBOUR: 'it returns false'. Refute it at one input. -/
def fnPeekAtShiftsByOneAfterNextWrong : ChangeSpec := { name := "fnPeekAtShiftsByOneAfterNext", fn := fun _ => fun
  | [d1, d2, d3, d4, d5] => { results := [.lit (.bool false)], args := [d1, d2, d3, d4, d5] }
  | _ => none }
def FnPeekAtShiftsByOneAfterNextWrongFalsely : Prop := fnPeekAtShiftsByOneAfterNextRow.holds Try.pinned (OpenSpec.ofChange fnPeekAtShiftsByOneAfterNextWrong)

/-- 'zzlaws_rules_b1.FnPeekAtForetellsNextReads': WHATEVER THE INPUT: true; the input reads as it did. -/
def fnPeekAtForetellsNextReadsSpec : ChangeSpec := { name := "fnPeekAtForetellsNextReads", fn := fun _ => fun
  | [d1, d2, d3, d4, d5] => { results := [.lit (.bool true)], args := [d1, d2, d3, d4, d5] }
  | _ => none }
def fnPeekAtForetellsNextReadsRow : OpenClaim := { program := "qxb6613939a", sum := "f3da4e22ad1d9800558c299a0014697b953eaf857085d10b4b45b2fa86ad2418", func := "example.com/ruleweave/ruleweave/zzlaws_rules_b1.FnPeekAtForetellsNextReads", spec := "fnPeekAtForetellsNextReads", apart := false }
def FnPeekAtForetellsNextReadsSaid : Prop := fnPeekAtForetellsNextReadsRow.holds Try.pinned (OpenSpec.ofChange fnPeekAtForetellsNextReadsSpec)

/-- ITS FALSE NEIGHBOUR: 'it returns false'. Refute it at one input. -/
def fnPeekAtForetellsNextReadsWrong : ChangeSpec := { name := "fnPeekAtForetellsNextReads", fn := fun _ => fun
  | [d1, d2, d3, d4, d5] => { results := [.lit (.bool false)], args := [d1, d2, d3, d4, d5] }
  | _ => none }
def FnPeekAtForetellsNextReadsWrongFalsely : Prop := fnPeekAtForetellsNextReadsRow.holds Try.pinned (OpenSpec.ofChange fnPeekAtForetellsNextReadsWrong)

end Rows
end Go.Proofs.Qxb6613939a
