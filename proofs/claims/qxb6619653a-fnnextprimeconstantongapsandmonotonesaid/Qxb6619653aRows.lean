/-
  No cell of these rows narrows 'for every input' (looked for: loops, veiled, ifaces, maps, wideKeys, modest, calm, conditions, laid).
  DERIVED. THE GIVEN ROWS OF THIS SEAT. 2 by the template 'for every input the law returns true; each argument reads behind the call as it read before'; 0 by the template 'total and deterministic' (their statements: Qxb6619653aTotals.lean).
  GIVEN WITH THE SEED: the statements are not yours to turn. If you find one false, say at which input.
  Laid BY PROGRAM, IN A SANDBOX (cutbox-rows.mjs): the forced cells as the released guide's own fill.sh prints them over the translation 0bf0c843487d211e… (all of the seat's roots in one cut). By AI agents, Wed Nov 11 2026. No macro, syntax, notation, axiom, sorry.
-/
import Derived.Test.Qxb6619653aChecked
import GoSem.Claim
import GoSem.ClaimJoined
import GoSem.ClaimMapViews
import Derived.JoinedTies
import Derived.KernelRfl
namespace Go.Proofs.Qxb6619653a
/- THE CELL 'sum', in the pinned program and in every row, IS THE sha256 OF THE DUMP (.gsa) THAT Qxb6619653aProg.lean LOADS. Nothing in Lean hashes anything: it is a label: what it is worth is what the hold of that sum in a sandbox is worth. -/
noncomputable def Try.pinned : Pinned := { name := "qxb6619653a", sum := "0bf0c843487d211ebe3e4416eacc2c1bc9dd08462571b9891c10d5adf22b67d7", checked := Try.checked }
namespace Rows
def none {H : Type} : Left H := { results := [], args := [] }

/-- 'zzlaws_internal_sha256f_b1.FnNextPrimeIsLeastPrimeAbove': WHATEVER THE INPUT: true; the input reads as it did. -/
def fnNextPrimeIsLeastPrimeAboveSpec : ChangeSpec := { name := "fnNextPrimeIsLeastPrimeAbove", fn := fun _ => fun
  | [d] => { results := [.lit (.bool true)], args := [d] }
  | _ => none }
def fnNextPrimeIsLeastPrimeAboveRow : OpenClaim := { program := "qxb6619653a", sum := "0bf0c843487d211ebe3e4416eacc2c1bc9dd08462571b9891c10d5adf22b67d7", func := "example.com/octuple/octuple/zzlaws_internal_sha256f_b1.FnNextPrimeIsLeastPrimeAbove", spec := "fnNextPrimeIsLeastPrimeAbove", apart := false }
def FnNextPrimeIsLeastPrimeAboveSaid : Prop := fnNextPrimeIsLeastPrimeAboveRow.holds Try.pinned (OpenSpec.ofChange fnNextPrimeIsLeastPrimeAboveSpec)

/-- ITS FALSE NEIGHBOUR: 'it returns false'. Refute it at one input. -/
def fnNextPrimeIsLeastPrimeAboveWrong : ChangeSpec := { name := "fnNextPrimeIsLeastPrimeAbove", fn := fun _ => fun
  | [d] => { results := [.lit (.bool false)], args := [d] }
  | _ => none }
def FnNextPrimeIsLeastPrimeAboveWrongFalsely : Prop := fnNextPrimeIsLeastPrimeAboveRow.holds Try.pinned (OpenSpec.ofChange fnNextPrimeIsLeastPrimeAboveWrong)

/-- 'zzlaws_internal_sha256f_b1.FnNextPrimeConstantOnGapsAndMonotone': WHATEVER THE INPUT: true; the input reads as it did. -/
def fnNextPrimeConstantOnGapsAndMonotoneSpec : ChangeSpec := { name := "fnNextPrimeConstantOnGapsAndMonotone", fn := fun _ => fun
  | [d1, d2] => { results := [.lit (.bool true)], args := [d1, d2] }
  | _ => none }
def fnNextPrimeConstantOnGapsAndMonotoneRow : OpenClaim := { program := "qxb6619653a", sum := "0bf0c843487d211ebe3e4416eacc2c1bc9dd08462571b9891c10d5adf22b67d7", func := "example.com/octuple/octuple/zzlaws_internal_sha256f_b1.FnNextPrimeConstantOnGapsAndMonotone", spec := "fnNextPrimeConstantOnGapsAndMonotone", apart := false }
def FnNextPrimeConstantOnGapsAndMonotoneSaid : Prop := fnNextPrimeConstantOnGapsAndMonotoneRow.holds Try.pinned (OpenSpec.ofChange fnNextPrimeConstantOnGapsAndMonotoneSpec)

/-- ITS FALSE NEIGHBOUR: 'it returns false'. Refute it at one input. -/
def fnNextPrimeConstantOnGapsAndMonotoneWrong : ChangeSpec := { name := "fnNextPrimeConstantOnGapsAndMonotone", fn := fun _ => fun
  | [d1, d2] => { results := [.lit (.bool false)], args := [d1, d2] }
  | _ => none }
def FnNextPrimeConstantOnGapsAndMonotoneWrongFalsely : Prop := fnNextPrimeConstantOnGapsAndMonotoneRow.holds Try.pinned (OpenSpec.ofChange fnNextPrimeConstantOnGapsAndMonotoneWrong)

end Rows
end Go.Proofs.Qxb6619653a
