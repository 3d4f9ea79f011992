/-
  No cell of these rows narrows 'for every input' (looked for: loops, veiled, ifaces, maps, wideKeys, modest, calm, conditions, laid).
  DERIVED. THE GIVEN ROWS OF THIS SEAT. 1 by the template 'for every input the law returns true; each argument reads behind the call as it read before'; 0 by the template 'total and deterministic' (their statements: Qxb6605924aTotals.lean).
  GIVEN WITH THE SEED: the statements are not yours to turn. If you find one false, say at which input.
  Laid BY PROGRAM, IN A SANDBOX (cutbox-rows.mjs): the forced cells as the released guide's own fill.sh prints them over the translation fa2f5e4cc68b2ee7… (all of the seat's roots in one cut). By AI agents, Wed Nov 11 2026. No macro, syntax, notation, axiom, sorry.
-/
import Derived.Test.Qxb6605924aChecked
import GoSem.Claim
import GoSem.ClaimJoined
import GoSem.ClaimMapViews
import Derived.JoinedTies
import Derived.KernelRfl
namespace Go.Proofs.Qxb6605924a
/- THE CELL 'sum', in the pinned program and in every row, IS THE sha256 OF THE DUMP (.gsa) THAT Qxb6605924aProg.lean LOADS. Nothing in Lean hashes anything: it is a label: what it is worth is what the hold of that sum in a sandbox is worth. -/
noncomputable def Try.pinned : Pinned := { name := "qxb6605924a", sum := "fa2f5e4cc68b2ee75fe3bb5776a4f1803fefce892ff2a8ed8fb92fa6b2f9e183", checked := Try.checked }
namespace Rows
def none {H : Type} : Left H := { results := [], args := [] }

/-- 'zzlaws_message_b1.FnEncryptedBodyIsAFreshCopyOfBody': WHATEVER THE INPUT: true; the input reads as it did. -/
def fnEncryptedBodyIsAFreshCopyOfBodySpec : ChangeSpec := { name := "fnEncryptedBodyIsAFreshCopyOfBody", fn := fun _ => fun
  | [d1, d2] => { results := [.lit (.bool true)], args := [d1, d2] }
  | _ => none }
def fnEncryptedBodyIsAFreshCopyOfBodyRow : OpenClaim := { program := "qxb6605924a", sum := "fa2f5e4cc68b2ee75fe3bb5776a4f1803fefce892ff2a8ed8fb92fa6b2f9e183", func := "example.com/sealwright/sealwright/zzlaws_message_b1.FnEncryptedBodyIsAFreshCopyOfBody", spec := "fnEncryptedBodyIsAFreshCopyOfBody", unfollowed := true, recurses := true, apart := false }
def FnEncryptedBodyIsAFreshCopyOfBodySaid : Prop := fnEncryptedBodyIsAFreshCopyOfBodyRow.holds Try.pinned (OpenSpec.ofChange fnEncryptedBodyIsAFreshCopyOfBodySpec)

/-- ITS FALSE NEIGHBOUR: 'it returns false'. Refute it at one input. -/
def fnEncryptedBodyIsAFreshCopyOfBodyWrong : ChangeSpec := { name := "fnEncryptedBodyIsAFreshCopyOfBody", fn := fun _ => fun
  | [d1, d2] => { results := [.lit (.bool false)], args := [d1, d2] }
  | _ => none }
def FnEncryptedBodyIsAFreshCopyOfBodyWrongFalsely : Prop := fnEncryptedBodyIsAFreshCopyOfBodyRow.holds Try.pinned (OpenSpec.ofChange fnEncryptedBodyIsAFreshCopyOfBodyWrong)

end Rows
end Go.Proofs.Qxb6605924a
