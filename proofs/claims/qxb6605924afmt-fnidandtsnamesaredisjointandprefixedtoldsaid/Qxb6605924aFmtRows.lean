/-
  No cell of these rows narrows 'for every input' (looked for: loops, veiled, ifaces, maps, wideKeys, modest, calm, conditions, laid).
  DERIVED. THE GIVEN ROWS OF THIS SEAT. 3 by the template 'for every input the law returns true; each argument reads behind the call as it read before'; 0 by the template 'total and deterministic' (their statements: Qxb6605924aFmtTotals.lean).
  GIVEN WITH THE SEED: the statements are not yours to turn. If you find one false, say at which input.
  Laid BY PROGRAM, IN A SANDBOX (cutbox-rows.mjs): the forced cells as the released guide's own fill.sh prints them over the translation 5cc8275e04f76934… (all of the seat's roots in one cut). By AI agents, Wed Nov 11 2026. No macro, syntax, notation, axiom, sorry.
-/
import Derived.Test.Qxb6605924aFmtChecked
import GoSem.Claim
import GoSem.ClaimJoined
import GoSem.ClaimMapViews
import Derived.JoinedTies
import Derived.KernelRfl
namespace Go.Proofs.Qxb6605924aFmt
/- THE CELL 'sum', in the pinned program and in every row, IS THE sha256 OF THE DUMP (.gsa) THAT Qxb6605924aFmtProg.lean LOADS. Nothing in Lean hashes anything: it is a label: what it is worth is what the hold of that sum in a sandbox is worth. -/
noncomputable def Tryf.pinned : Pinned := { name := "qxb6605924afmt", sum := "5cc8275e04f76934cc1680ab82cd5c546004cd755dc098012e300b49749ec61c", checked := Tryf.checked }
namespace Rows
def none {H : Type} : Left H := { results := [], args := [] }

/-- 'zzlaws_message_b1.FnIDTypeIPv4AndIPv6NamesDifferOnlyInTheDigit': WHATEVER THE INPUT: true; the input reads as it did. -/
def fnIDTypeIPv4AndIPv6NamesDifferOnlyInTheDigitSpec : ChangeSpec := { name := "fnIDTypeIPv4AndIPv6NamesDifferOnlyInTheDigit", fn := fun _ => fun
  | [d] => { results := [.lit (.bool true)], args := [d] }
  | _ => none }
def fnIDTypeIPv4AndIPv6NamesDifferOnlyInTheDigitRow : OpenClaim := { program := "qxb6605924afmt", sum := "5cc8275e04f76934cc1680ab82cd5c546004cd755dc098012e300b49749ec61c", func := "example.com/sealwright/sealwright/zzlaws_message_b1.FnIDTypeIPv4AndIPv6NamesDifferOnlyInTheDigit", spec := "fnIDTypeIPv4AndIPv6NamesDifferOnlyInTheDigit", stops := ["fmt.Sprintf"], inPlace := ["fmt.Sprintf"], apart := false }
/-- NO THEOREM (fmt's text is open here; it may be false): for the released tool's asking of the row's closed facts alone. THE STATEMENT IS 'FnIDTypeIPv4AndIPv6NamesDifferOnlyInTheDigitToldSaid' (Qxb6605924aFmtCards.lean). -/
def FnIDTypeIPv4AndIPv6NamesDifferOnlyInTheDigitFormAsk : Prop := fnIDTypeIPv4AndIPv6NamesDifferOnlyInTheDigitRow.holds Tryf.pinned (OpenSpec.ofChange fnIDTypeIPv4AndIPv6NamesDifferOnlyInTheDigitSpec)

/-- ITS FALSE NEIGHBOUR: 'it returns false'. Refute it at one input. -/
def fnIDTypeIPv4AndIPv6NamesDifferOnlyInTheDigitWrong : ChangeSpec := { name := "fnIDTypeIPv4AndIPv6NamesDifferOnlyInTheDigit", fn := fun _ => fun
  | [d] => { results := [.lit (.bool false)], args := [d] }
  | _ => none }
def FnIDTypeIPv4AndIPv6NamesDifferOnlyInTheDigitWrongFormAsk : Prop := fnIDTypeIPv4AndIPv6NamesDifferOnlyInTheDigitRow.holds Tryf.pinned (OpenSpec.ofChange fnIDTypeIPv4AndIPv6NamesDifferOnlyInTheDigitWrong)

/-- 'zzlaws_message_b1.FnTSTypeIPv4AndIPv6NamesDifferOnlyInTheDigit': WHATEVER THE INPUT: true; the input reads as it did. -/
def fnTSTypeIPv4AndIPv6NamesDifferOnlyInTheDigitSpec : ChangeSpec := { name := "fnTSTypeIPv4AndIPv6NamesDifferOnlyInTheDigit", fn := fun _ => fun
  | [d] => { results := [.lit (.bool true)], args := [d] }
  | _ => none }
def fnTSTypeIPv4AndIPv6NamesDifferOnlyInTheDigitRow : OpenClaim := { program := "qxb6605924afmt", sum := "5cc8275e04f76934cc1680ab82cd5c546004cd755dc098012e300b49749ec61c", func := "example.com/sealwright/sealwright/zzlaws_message_b1.FnTSTypeIPv4AndIPv6NamesDifferOnlyInTheDigit", spec := "fnTSTypeIPv4AndIPv6NamesDifferOnlyInTheDigit", stops := ["fmt.Sprintf"], inPlace := ["fmt.Sprintf"], apart := false }
/-- NO THEOREM (fmt's text is open here; it may be false): for the released tool's asking of the row's closed facts alone. THE STATEMENT IS 'FnTSTypeIPv4AndIPv6NamesDifferOnlyInTheDigitToldSaid' (Qxb6605924aFmtCards.lean). -/
def FnTSTypeIPv4AndIPv6NamesDifferOnlyInTheDigitFormAsk : Prop := fnTSTypeIPv4AndIPv6NamesDifferOnlyInTheDigitRow.holds Tryf.pinned (OpenSpec.ofChange fnTSTypeIPv4AndIPv6NamesDifferOnlyInTheDigitSpec)

/-- ITS FALSE NEIGHBOUR: 'it returns false'. Refute it at one input. -/
def fnTSTypeIPv4AndIPv6NamesDifferOnlyInTheDigitWrong : ChangeSpec := { name := "fnTSTypeIPv4AndIPv6NamesDifferOnlyInTheDigit", fn := fun _ => fun
  | [d] => { results := [.lit (.bool false)], args := [d] }
  | _ => none }
def FnTSTypeIPv4AndIPv6NamesDifferOnlyInTheDigitWrongFormAsk : Prop := fnTSTypeIPv4AndIPv6NamesDifferOnlyInTheDigitRow.holds Tryf.pinned (OpenSpec.ofChange fnTSTypeIPv4AndIPv6NamesDifferOnlyInTheDigitWrong)

/-- 'zzlaws_message_b1.FnIDAndTSNamesAreDisjointAndPrefixed': WHATEVER THE INPUT: true; the input reads as it did. -/
def fnIDAndTSNamesAreDisjointAndPrefixedSpec : ChangeSpec := { name := "fnIDAndTSNamesAreDisjointAndPrefixed", fn := fun _ => fun
  | [d1, d2] => { results := [.lit (.bool true)], args := [d1, d2] }
  | _ => none }
def fnIDAndTSNamesAreDisjointAndPrefixedRow : OpenClaim := { program := "qxb6605924afmt", sum := "5cc8275e04f76934cc1680ab82cd5c546004cd755dc098012e300b49749ec61c", func := "example.com/sealwright/sealwright/zzlaws_message_b1.FnIDAndTSNamesAreDisjointAndPrefixed", spec := "fnIDAndTSNamesAreDisjointAndPrefixed", stops := ["fmt.Sprintf"], inPlace := ["fmt.Sprintf"], apart := false }
/-- NO THEOREM (fmt's text is open here; it may be false): for the released tool's asking of the row's closed facts alone. THE STATEMENT IS 'FnIDAndTSNamesAreDisjointAndPrefixedToldSaid' (Qxb6605924aFmtCards.lean). -/
def FnIDAndTSNamesAreDisjointAndPrefixedFormAsk : Prop := fnIDAndTSNamesAreDisjointAndPrefixedRow.holds Tryf.pinned (OpenSpec.ofChange fnIDAndTSNamesAreDisjointAndPrefixedSpec)

/-- ITS FALSE NEIGHBOUR: 'it returns false'. Refute it at one input. -/
def fnIDAndTSNamesAreDisjointAndPrefixedWrong : ChangeSpec := { name := "fnIDAndTSNamesAreDisjointAndPrefixed", fn := fun _ => fun
  | [d1, d2] => { results := [.lit (.bool false)], args := [d1, d2] }
  | _ => none }
def FnIDAndTSNamesAreDisjointAndPrefixedWrongFormAsk : Prop := fnIDAndTSNamesAreDisjointAndPrefixedRow.holds Tryf.pinned (OpenSpec.ofChange fnIDAndTSNamesAreDisjointAndPrefixedWrong)

end Rows
end Go.Proofs.Qxb6605924aFmt
