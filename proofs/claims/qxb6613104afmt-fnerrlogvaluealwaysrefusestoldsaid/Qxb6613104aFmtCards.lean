/-
  DERIVED. GIVEN WITH THE SEED: THE CARDS: each row of Qxb6613104aFmtRows.lean that lists a variable, with what it lists TIED to the program's text (the seventh form; the later family's looks); each row that meets fmt, with fmt's text TOLD by the authors' own Lean function (tested against real Go, not proved from fmt's source: count such statements apart). THE CARD IS WHAT COUNTS. Prove the row's statement (the work); the ties are given (Qxb6613104aFmtTie.lean); close each card by the builder's one call (the guide's Derived/Test/ToyasCard.lean, 'card_holds'). Laid BY PROGRAM, IN A SANDBOX (cutbox-door.mjs). By AI agents, Wed Nov 11 2026. No macro, syntax, notation, axiom, sorry.
-/
import Derived.Test.Qxb6613104aFmtRows
import GoSem.ClaimSeven
namespace Go.Proofs.Qxb6613104aFmt
namespace Rows

/-- THE TOLD AND TIED CARD OF 'zzlaws_history_b1.FnEDNSpacesAreSixASCIIBytesNoneAHexDigit'. -/
def fnEDNSpacesAreSixASCIIBytesNoneAHexDigitCard : Claim7 := { stood := { row := fnEDNSpacesAreSixASCIIBytesNoneAHexDigitRow, standIns := [], harness := (true, "302affc6c88552c90fe2111de2d51fdbe832beeb3c170d21bda7602eb6fe7fa0"), looks := true }, told := true, laidByText := true, laidKinds := [.data, .data, .data, .called, .called], laidTests := true, laidLooks := .later, goes := false }
def FnEDNSpacesAreSixASCIIBytesNoneAHexDigitToldSaid : Prop := Claim7.holds Tryf.pinned (.plain (OpenSpec.ofChange fnEDNSpacesAreSixASCIIBytesNoneAHexDigitSpec)) fnEDNSpacesAreSixASCIIBytesNoneAHexDigitCard
/-- ITS FALSE NEIGHBOUR. Refute it at one input. -/
def FnEDNSpacesAreSixASCIIBytesNoneAHexDigitToldWrongFalsely : Prop := Claim7.holds Tryf.pinned (.plain (OpenSpec.ofChange fnEDNSpacesAreSixASCIIBytesNoneAHexDigitWrong)) fnEDNSpacesAreSixASCIIBytesNoneAHexDigitCard

/-- THE TOLD AND TIED CARD OF 'zzlaws_history_b1.FnCodeUnitReadsFourHexDigits'. -/
def fnCodeUnitReadsFourHexDigitsCard : Claim7 := { stood := { row := fnCodeUnitReadsFourHexDigitsRow, standIns := [], harness := (true, "302affc6c88552c90fe2111de2d51fdbe832beeb3c170d21bda7602eb6fe7fa0"), looks := true }, told := true, laidByText := true, laidKinds := [.data, .data, .data, .called, .called], laidTests := true, laidLooks := .later, goes := false }
def FnCodeUnitReadsFourHexDigitsToldSaid : Prop := Claim7.holds Tryf.pinned (.plain (OpenSpec.ofChange fnCodeUnitReadsFourHexDigitsSpec)) fnCodeUnitReadsFourHexDigitsCard
/-- ITS FALSE NEIGHBOUR. Refute it at one input. -/
def FnCodeUnitReadsFourHexDigitsToldWrongFalsely : Prop := Claim7.holds Tryf.pinned (.plain (OpenSpec.ofChange fnCodeUnitReadsFourHexDigitsWrong)) fnCodeUnitReadsFourHexDigitsCard

/-- THE TOLD AND TIED CARD OF 'zzlaws_history_b1.FnCodeUnitIgnoresCaseAndStopsAtSpaces'. -/
def fnCodeUnitIgnoresCaseAndStopsAtSpacesCard : Claim7 := { stood := { row := fnCodeUnitIgnoresCaseAndStopsAtSpacesRow, standIns := [], harness := (true, "302affc6c88552c90fe2111de2d51fdbe832beeb3c170d21bda7602eb6fe7fa0"), looks := true }, told := true, laidByText := true, laidKinds := [.data, .data, .data, .called, .called], laidTests := true, laidLooks := .later, goes := false }
def FnCodeUnitIgnoresCaseAndStopsAtSpacesToldSaid : Prop := Claim7.holds Tryf.pinned (.plain (OpenSpec.ofChange fnCodeUnitIgnoresCaseAndStopsAtSpacesSpec)) fnCodeUnitIgnoresCaseAndStopsAtSpacesCard
/-- ITS FALSE NEIGHBOUR. Refute it at one input. -/
def FnCodeUnitIgnoresCaseAndStopsAtSpacesToldWrongFalsely : Prop := Claim7.holds Tryf.pinned (.plain (OpenSpec.ofChange fnCodeUnitIgnoresCaseAndStopsAtSpacesWrong)) fnCodeUnitIgnoresCaseAndStopsAtSpacesCard

/-- THE TOLD CARD OF 'zzlaws_history_b1.FnErrLogValueAlwaysRefuses'. -/
def fnErrLogValueAlwaysRefusesCard : Claim7 := { stood := { row := fnErrLogValueAlwaysRefusesRow, standIns := [], harness := (true, "302affc6c88552c90fe2111de2d51fdbe832beeb3c170d21bda7602eb6fe7fa0"), looks := true }, told := true, goes := false }
def FnErrLogValueAlwaysRefusesToldSaid : Prop := Claim7.holds Tryf.pinned (.plain (OpenSpec.ofChange fnErrLogValueAlwaysRefusesSpec)) fnErrLogValueAlwaysRefusesCard
/-- ITS FALSE NEIGHBOUR. Refute it at one input. -/
def FnErrLogValueAlwaysRefusesToldWrongFalsely : Prop := Claim7.holds Tryf.pinned (.plain (OpenSpec.ofChange fnErrLogValueAlwaysRefusesWrong)) fnErrLogValueAlwaysRefusesCard
end Rows
end Go.Proofs.Qxb6613104aFmt
