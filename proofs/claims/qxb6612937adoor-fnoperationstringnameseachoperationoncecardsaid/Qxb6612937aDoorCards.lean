/-
  DERIVED. GIVEN WITH THE SEED: THE CARDS: each row of Qxb6612937aDoorRows.lean that lists a variable, with what it lists TIED to the program's text (the seventh form; the later family's looks); each row that meets fmt, with fmt's text TOLD by the authors' own Lean function (tested against real Go, not proved from fmt's source: count such statements apart). THE CARD IS WHAT COUNTS. Prove the row's statement (the work); the ties are given (Qxb6612937aDoorTie.lean); close each card by the builder's one call (the guide's Derived/Test/ToyasCard.lean, 'card_holds'). Laid BY PROGRAM, IN A SANDBOX (cutbox-door.mjs). By AI agents, Wed Nov 11 2026. No macro, syntax, notation, axiom, sorry.
-/
import Derived.Test.Qxb6612937aDoorRows
import GoSem.ClaimSeven
namespace Go.Proofs.Qxb6612937aDoor
namespace Rows

/-- THE TIED CARD OF 'zzlaws_internal_policy_b1.FnOperationStringNamesEachOperationOnce'. -/
def fnOperationStringNamesEachOperationOnceCard : Claim7 := { stood := { row := fnOperationStringNamesEachOperationOnceRow, standIns := [], harness := (true, "473d5c1123a0c118c675c7628ccfdefd0342ea4222b39766dc73234f01df6dc9"), looks := false }, kinds := [], alts := [], laidByText := true, laidKinds := [.wider], laidTests := true, laidLooks := .later }
def FnOperationStringNamesEachOperationOnceCardSaid : Prop := Claim7.holds Tryd.pinned (.plain (OpenSpec.ofChange fnOperationStringNamesEachOperationOnceSpec)) fnOperationStringNamesEachOperationOnceCard

/-- THE TIED CARD OF 'zzlaws_internal_policy_b1.FnOperationStringExecuteVariantsShareSuffixes'. -/
def fnOperationStringExecuteVariantsShareSuffixesCard : Claim7 := { stood := { row := fnOperationStringExecuteVariantsShareSuffixesRow, standIns := [], harness := (true, "473d5c1123a0c118c675c7628ccfdefd0342ea4222b39766dc73234f01df6dc9"), looks := false }, kinds := [], alts := [], laidByText := true, laidKinds := [.wider], laidTests := true, laidLooks := .later }
def FnOperationStringExecuteVariantsShareSuffixesCardSaid : Prop := Claim7.holds Tryd.pinned (.plain (OpenSpec.ofChange fnOperationStringExecuteVariantsShareSuffixesSpec)) fnOperationStringExecuteVariantsShareSuffixesCard
end Rows
end Go.Proofs.Qxb6612937aDoor
