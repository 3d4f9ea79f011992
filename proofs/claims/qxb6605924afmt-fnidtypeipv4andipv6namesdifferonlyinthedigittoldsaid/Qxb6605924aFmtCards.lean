/-
  DERIVED. GIVEN WITH THE SEED: THE CARDS: each row of Qxb6605924aFmtRows.lean that lists a variable, with what it lists TIED to the program's text (the seventh form; the later family's looks); each row that meets fmt, with fmt's text TOLD by the authors' own Lean function (tested against real Go, not proved from fmt's source: count such statements apart). THE CARD IS WHAT COUNTS. Prove the row's statement (the work); the ties are given (Qxb6605924aFmtTie.lean); close each card by the builder's one call (the guide's Derived/Test/ToyasCard.lean, 'card_holds'). Laid BY PROGRAM, IN A SANDBOX (cutbox-door.mjs). By AI agents, Wed Nov 11 2026. No macro, syntax, notation, axiom, sorry.
-/
import Derived.Test.Qxb6605924aFmtRows
import GoSem.ClaimSeven
namespace Go.Proofs.Qxb6605924aFmt
namespace Rows

/-- THE TOLD CARD OF 'zzlaws_message_b1.FnIDTypeIPv4AndIPv6NamesDifferOnlyInTheDigit'. -/
def fnIDTypeIPv4AndIPv6NamesDifferOnlyInTheDigitCard : Claim7 := { stood := { row := fnIDTypeIPv4AndIPv6NamesDifferOnlyInTheDigitRow, standIns := [], harness := (true, "2cf20213d961ac2ee6bd741e2d69fdbe6c64c3edbd5dc68b35d31bf2b73779fa"), looks := false }, told := true, goes := false }
def FnIDTypeIPv4AndIPv6NamesDifferOnlyInTheDigitToldSaid : Prop := Claim7.holds Tryf.pinned (.plain (OpenSpec.ofChange fnIDTypeIPv4AndIPv6NamesDifferOnlyInTheDigitSpec)) fnIDTypeIPv4AndIPv6NamesDifferOnlyInTheDigitCard
/-- ITS FALSE NEIGHBOUR. Refute it at one input. -/
def FnIDTypeIPv4AndIPv6NamesDifferOnlyInTheDigitToldWrongFalsely : Prop := Claim7.holds Tryf.pinned (.plain (OpenSpec.ofChange fnIDTypeIPv4AndIPv6NamesDifferOnlyInTheDigitWrong)) fnIDTypeIPv4AndIPv6NamesDifferOnlyInTheDigitCard

/-- THE TOLD CARD OF 'zzlaws_message_b1.FnTSTypeIPv4AndIPv6NamesDifferOnlyInTheDigit'. -/
def fnTSTypeIPv4AndIPv6NamesDifferOnlyInTheDigitCard : Claim7 := { stood := { row := fnTSTypeIPv4AndIPv6NamesDifferOnlyInTheDigitRow, standIns := [], harness := (true, "2cf20213d961ac2ee6bd741e2d69fdbe6c64c3edbd5dc68b35d31bf2b73779fa"), looks := false }, told := true, goes := false }
def FnTSTypeIPv4AndIPv6NamesDifferOnlyInTheDigitToldSaid : Prop := Claim7.holds Tryf.pinned (.plain (OpenSpec.ofChange fnTSTypeIPv4AndIPv6NamesDifferOnlyInTheDigitSpec)) fnTSTypeIPv4AndIPv6NamesDifferOnlyInTheDigitCard
/-- ITS FALSE NEIGHBOUR. Refute it at one input. -/
def FnTSTypeIPv4AndIPv6NamesDifferOnlyInTheDigitToldWrongFalsely : Prop := Claim7.holds Tryf.pinned (.plain (OpenSpec.ofChange fnTSTypeIPv4AndIPv6NamesDifferOnlyInTheDigitWrong)) fnTSTypeIPv4AndIPv6NamesDifferOnlyInTheDigitCard

/-- THE TOLD CARD OF 'zzlaws_message_b1.FnIDAndTSNamesAreDisjointAndPrefixed'. -/
def fnIDAndTSNamesAreDisjointAndPrefixedCard : Claim7 := { stood := { row := fnIDAndTSNamesAreDisjointAndPrefixedRow, standIns := [], harness := (true, "2cf20213d961ac2ee6bd741e2d69fdbe6c64c3edbd5dc68b35d31bf2b73779fa"), looks := false }, told := true, goes := false }
def FnIDAndTSNamesAreDisjointAndPrefixedToldSaid : Prop := Claim7.holds Tryf.pinned (.plain (OpenSpec.ofChange fnIDAndTSNamesAreDisjointAndPrefixedSpec)) fnIDAndTSNamesAreDisjointAndPrefixedCard
/-- ITS FALSE NEIGHBOUR. Refute it at one input. -/
def FnIDAndTSNamesAreDisjointAndPrefixedToldWrongFalsely : Prop := Claim7.holds Tryf.pinned (.plain (OpenSpec.ofChange fnIDAndTSNamesAreDisjointAndPrefixedWrong)) fnIDAndTSNamesAreDisjointAndPrefixedCard
end Rows
end Go.Proofs.Qxb6605924aFmt
