/-
  No cell of these rows narrows 'for every input' (looked for: loops, veiled, ifaces, maps, wideKeys, modest, calm, conditions, laid).
  DERIVED. THE GIVEN ROWS OF THIS SEAT. 1 by the template 'for every input the law returns true; each argument reads behind the call as it read before'; 0 by the template 'total and deterministic' (their statements: Qxb6619415aTotals.lean).
  GIVEN WITH THE SEED: the statements are not yours to turn. If you find one false, say at which input.
  Laid BY PROGRAM, IN A SANDBOX (cutbox-rows.mjs): the forced cells as the released guide's own fill.sh prints them over the translation fb611fc252bcb50e… (all of the seat's roots in one cut). By AI agents, Wed Nov 11 2026. No macro, syntax, notation, axiom, sorry.
-/
import Derived.Test.Qxb6619415aChecked
import GoSem.Claim
import GoSem.ClaimJoined
import GoSem.ClaimMapViews
import Derived.JoinedTies
import Derived.KernelRfl
namespace Go.Proofs.Qxb6619415a
/- THE CELL 'sum', in the pinned program and in every row, IS THE sha256 OF THE DUMP (.gsa) THAT Qxb6619415aProg.lean LOADS. Nothing in Lean hashes anything: it is a label: what it is worth is what the hold of that sum in a sandbox is worth. -/
noncomputable def Try.pinned : Pinned := { name := "qxb6619415a", sum := "fb611fc252bcb50e90fad288615a59c770a777d161fee142b2c28f1796d77be3", checked := Try.checked }
namespace Rows
def none {H : Type} : Left H := { results := [], args := [] }

/-- 'zzlaws_root_b1.FnConfirmationCodeSeparatesPurchaseFromAllElse': WHATEVER THE INPUT: true; the input reads as it did. -/
def fnConfirmationCodeSeparatesPurchaseFromAllElseSpec : ChangeSpec := { name := "fnConfirmationCodeSeparatesPurchaseFromAllElse", fn := fun _ => fun
  | [d1, d2] => { results := [.lit (.bool true)], args := [d1, d2] }
  | _ => none }
def fnConfirmationCodeSeparatesPurchaseFromAllElseRow : OpenClaim := { program := "qxb6619415a", sum := "fb611fc252bcb50e90fad288615a59c770a777d161fee142b2c28f1796d77be3", func := "example.com/zhaomu/zhaomu/zzlaws_root_b1.FnConfirmationCodeSeparatesPurchaseFromAllElse", spec := "fnConfirmationCodeSeparatesPurchaseFromAllElse", apart := false }
def FnConfirmationCodeSeparatesPurchaseFromAllElseSaid : Prop := fnConfirmationCodeSeparatesPurchaseFromAllElseRow.holds Try.pinned (OpenSpec.ofChange fnConfirmationCodeSeparatesPurchaseFromAllElseSpec)

/-- ITS FALSE NEIGHBOUR: 'it returns false'. Refute it at one input. -/
def fnConfirmationCodeSeparatesPurchaseFromAllElseWrong : ChangeSpec := { name := "fnConfirmationCodeSeparatesPurchaseFromAllElse", fn := fun _ => fun
  | [d1, d2] => { results := [.lit (.bool false)], args := [d1, d2] }
  | _ => none }
def FnConfirmationCodeSeparatesPurchaseFromAllElseWrongFalsely : Prop := fnConfirmationCodeSeparatesPurchaseFromAllElseRow.holds Try.pinned (OpenSpec.ofChange fnConfirmationCodeSeparatesPurchaseFromAllElseWrong)

end Rows
end Go.Proofs.Qxb6619415a
