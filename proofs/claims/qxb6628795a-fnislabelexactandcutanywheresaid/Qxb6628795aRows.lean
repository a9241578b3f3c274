/-
  No cell of these rows narrows 'for every input' (looked for: loops, veiled, ifaces, maps, wideKeys, modest, calm, conditions, laid).
  DERIVED. THE GIVEN ROWS OF THIS SEAT. 2 by the template 'for every input the law returns true; each argument reads behind the call as it read before'; 0 by the template 'total and deterministic' (their statements: Qxb6628795aTotals.lean).
  GIVEN WITH THE SEED: the statements are not yours to turn. If you find one false, say at which input.
  Laid BY PROGRAM, IN A SANDBOX (cutbox-rows.mjs): the forced cells as the released guide's own fill.sh prints them over the translation 49e224f0262b1a67… (all of the seat's roots in one cut). By AI agents, Wed Nov 11 2026. No macro, syntax, notation, axiom, sorry.
-/
import Derived.Test.Qxb6628795aChecked
import GoSem.Claim
import GoSem.ClaimJoined
import GoSem.ClaimMapViews
import Derived.JoinedTies
import Derived.KernelRfl
namespace Go.Proofs.Qxb6628795a
/- THE CELL 'sum', in the pinned program and in every row, IS THE sha256 OF THE DUMP (.gsa) THAT Qxb6628795aProg.lean LOADS. Nothing in Lean hashes anything: it is a label: what it is worth is what the hold of that sum in a sandbox is worth. -/
noncomputable def Try.pinned : Pinned := { name := "qxb6628795a", sum := "49e224f0262b1a67f2ee8b90ba8dfea174a5ddaf4c1be0225e112387f2f5565e", checked := Try.checked }
namespace Rows
def none {H : Type} : Left H := { results := [], args := [] }

/-- 'zzlaws_internal_dnsname_b1.FnIsLabelExactAndCutAnywhere': WHATEVER THE INPUT: true; the input reads as it did. -/
def fnIsLabelExactAndCutAnywhereSpec : ChangeSpec := { name := "fnIsLabelExactAndCutAnywhere", fn := fun _ => fun
  | [d1, d2] => { results := [.lit (.bool true)], args := [d1, d2] }
  | _ => none }
def fnIsLabelExactAndCutAnywhereRow : OpenClaim := { program := "qxb6628795a", sum := "49e224f0262b1a67f2ee8b90ba8dfea174a5ddaf4c1be0225e112387f2f5565e", func := "example.com/claimd/claimd/zzlaws_internal_dnsname_b1.FnIsLabelExactAndCutAnywhere", spec := "fnIsLabelExactAndCutAnywhere", apart := false }
def FnIsLabelExactAndCutAnywhereSaid : Prop := fnIsLabelExactAndCutAnywhereRow.holds Try.pinned (OpenSpec.ofChange fnIsLabelExactAndCutAnywhereSpec)

/-- ITS FALSE NEIGHBOUR: 'it returns false'. Refute it at one input. -/
def fnIsLabelExactAndCutAnywhereWrong : ChangeSpec := { name := "fnIsLabelExactAndCutAnywhere", fn := fun _ => fun
  | [d1, d2] => { results := [.lit (.bool false)], args := [d1, d2] }
  | _ => none }
def FnIsLabelExactAndCutAnywhereWrongFalsely : Prop := fnIsLabelExactAndCutAnywhereRow.holds Try.pinned (OpenSpec.ofChange fnIsLabelExactAndCutAnywhereWrong)

/-- 'zzlaws_internal_dnsname_b1.FnIsLabelHyphenInsideActsAsDigit': WHATEVER THE INPUT: true; the input reads as it did. -/
def fnIsLabelHyphenInsideActsAsDigitSpec : ChangeSpec := { name := "fnIsLabelHyphenInsideActsAsDigit", fn := fun _ => fun
  | [d1, d2] => { results := [.lit (.bool true)], args := [d1, d2] }
  | _ => none }
def fnIsLabelHyphenInsideActsAsDigitRow : OpenClaim := { program := "qxb6628795a", sum := "49e224f0262b1a67f2ee8b90ba8dfea174a5ddaf4c1be0225e112387f2f5565e", func := "example.com/claimd/claimd/zzlaws_internal_dnsname_b1.FnIsLabelHyphenInsideActsAsDigit", spec := "fnIsLabelHyphenInsideActsAsDigit", apart := false }
def FnIsLabelHyphenInsideActsAsDigitSaid : Prop := fnIsLabelHyphenInsideActsAsDigitRow.holds Try.pinned (OpenSpec.ofChange fnIsLabelHyphenInsideActsAsDigitSpec)

/-- ITS FALSE NEIGHBOUR: 'it returns false'. Refute it at one input. -/
def fnIsLabelHyphenInsideActsAsDigitWrong : ChangeSpec := { name := "fnIsLabelHyphenInsideActsAsDigit", fn := fun _ => fun
  | [d1, d2] => { results := [.lit (.bool false)], args := [d1, d2] }
  | _ => none }
def FnIsLabelHyphenInsideActsAsDigitWrongFalsely : Prop := fnIsLabelHyphenInsideActsAsDigitRow.holds Try.pinned (OpenSpec.ofChange fnIsLabelHyphenInsideActsAsDigitWrong)

end Rows
end Go.Proofs.Qxb6628795a
