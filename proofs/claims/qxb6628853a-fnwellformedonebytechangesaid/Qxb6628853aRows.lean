/-
  No cell of these rows narrows 'for every input' (looked for: loops, veiled, ifaces, maps, wideKeys, modest, calm, conditions, laid).
  DERIVED. THE GIVEN ROWS OF THIS SEAT. 2 by the template 'for every input the law returns true; each argument reads behind the call as it read before'; 0 by the template 'total and deterministic' (their statements: Qxb6628853aTotals.lean).
  GIVEN WITH THE SEED: the statements are not yours to turn. If you find one false, say at which input.
  Laid BY PROGRAM, IN A SANDBOX (cutbox-rows.mjs): the forced cells as the released guide's own fill.sh prints them over the translation 8ed4968b4aa8229f… (all of the seat's roots in one cut). By AI agents, Wed Nov 11 2026. No macro, syntax, notation, axiom, sorry.
-/
import Derived.Test.Qxb6628853aChecked
import GoSem.Claim
import GoSem.ClaimJoined
import GoSem.ClaimMapViews
import Derived.JoinedTies
import Derived.KernelRfl
namespace Go.Proofs.Qxb6628853a
/- THE CELL 'sum', in the pinned program and in every row, IS THE sha256 OF THE DUMP (.gsa) THAT Qxb6628853aProg.lean LOADS. Nothing in Lean hashes anything: it is a label: what it is worth is what the hold of that sum in a sandbox is worth. -/
noncomputable def Try.pinned : Pinned := { name := "qxb6628853a", sum := "8ed4968b4aa8229f42656ec6d6f2862743f4a177e08b73df23a091bbd5813b04", checked := Try.checked }
namespace Rows
def none {H : Type} : Left H := { results := [], args := [] }

/-- 'zzlaws_internal_codes_b1.FnWellFormedCutAndDecimalRoundTrip': WHATEVER THE INPUT: true; the input reads as it did. -/
def fnWellFormedCutAndDecimalRoundTripSpec : ChangeSpec := { name := "fnWellFormedCutAndDecimalRoundTrip", fn := fun _ => fun
  | [d1, d2] => { results := [.lit (.bool true)], args := [d1, d2] }
  | _ => none }
def fnWellFormedCutAndDecimalRoundTripRow : OpenClaim := { program := "qxb6628853a", sum := "8ed4968b4aa8229f42656ec6d6f2862743f4a177e08b73df23a091bbd5813b04", func := "example.com/usher/usher/zzlaws_internal_codes_b1.FnWellFormedCutAndDecimalRoundTrip", spec := "fnWellFormedCutAndDecimalRoundTrip", apart := false }
def FnWellFormedCutAndDecimalRoundTripSaid : Prop := fnWellFormedCutAndDecimalRoundTripRow.holds Try.pinned (OpenSpec.ofChange fnWellFormedCutAndDecimalRoundTripSpec)

/-- ITS FALSE NEIGHBOUR: 'it returns false'. Refute it at one input. -/
def fnWellFormedCutAndDecimalRoundTripWrong : ChangeSpec := { name := "fnWellFormedCutAndDecimalRoundTrip", fn := fun _ => fun
  | [d1, d2] => { results := [.lit (.bool false)], args := [d1, d2] }
  | _ => none }
def FnWellFormedCutAndDecimalRoundTripWrongFalsely : Prop := fnWellFormedCutAndDecimalRoundTripRow.holds Try.pinned (OpenSpec.ofChange fnWellFormedCutAndDecimalRoundTripWrong)

/-- 'zzlaws_internal_codes_b1.FnWellFormedOneByteChange': WHATEVER THE INPUT: true; the input reads as it did. -/
def fnWellFormedOneByteChangeSpec : ChangeSpec := { name := "fnWellFormedOneByteChange", fn := fun _ => fun
  | [d1, d2, d3] => { results := [.lit (.bool true)], args := [d1, d2, d3] }
  | _ => none }
def fnWellFormedOneByteChangeRow : OpenClaim := { program := "qxb6628853a", sum := "8ed4968b4aa8229f42656ec6d6f2862743f4a177e08b73df23a091bbd5813b04", func := "example.com/usher/usher/zzlaws_internal_codes_b1.FnWellFormedOneByteChange", spec := "fnWellFormedOneByteChange", apart := false }
def FnWellFormedOneByteChangeSaid : Prop := fnWellFormedOneByteChangeRow.holds Try.pinned (OpenSpec.ofChange fnWellFormedOneByteChangeSpec)

/-- ITS FALSE NEIGHBOUR: 'it returns false'. Refute it at one input. -/
def fnWellFormedOneByteChangeWrong : ChangeSpec := { name := "fnWellFormedOneByteChange", fn := fun _ => fun
  | [d1, d2, d3] => { results := [.lit (.bool false)], args := [d1, d2, d3] }
  | _ => none }
def FnWellFormedOneByteChangeWrongFalsely : Prop := fnWellFormedOneByteChangeRow.holds Try.pinned (OpenSpec.ofChange fnWellFormedOneByteChangeWrong)

end Rows
end Go.Proofs.Qxb6628853a
