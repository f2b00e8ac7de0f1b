/-
  No cell of these rows narrows 'for every input' (looked for: loops, veiled, ifaces, maps, wideKeys, modest, calm, conditions, laid).
  DERIVED. THE GIVEN ROWS OF THIS SEAT. 3 by the template 'for every input the law returns true; each argument reads behind the call as it read before'; 0 by the template 'total and deterministic' (their statements: Qxb6619660aTotals.lean).
  GIVEN WITH THE SEED: the statements are not yours to turn. If you find one false, say at which input.
  Laid BY PROGRAM, IN A SANDBOX (cutbox-rows.mjs): the forced cells as the released guide's own fill.sh prints them over the translation ef50c38cbd2b0fd0… (all of the seat's roots in one cut). By AI agents, Wed Nov 11 2026. No macro, syntax, notation, axiom, sorry.
-/
import Derived.Test.Qxb6619660aChecked
import GoSem.Claim
import GoSem.ClaimJoined
import GoSem.ClaimMapViews
import Derived.JoinedTies
import Derived.KernelRfl
namespace Go.Proofs.Qxb6619660a
/- THE CELL 'sum', in the pinned program and in every row, IS THE sha256 OF THE DUMP (.gsa) THAT Qxb6619660aProg.lean LOADS. Nothing in Lean hashes anything: it is a label: what it is worth is what the hold of that sum in a sandbox is worth. -/
noncomputable def Try.pinned : Pinned := { name := "qxb6619660a", sum := "ef50c38cbd2b0fd0071ce79eb4e821f97668d65573621de52b1708251a6e9f1b", checked := Try.checked }
namespace Rows
def none {H : Type} : Left H := { results := [], args := [] }

/-- 'zzlaws_root_b1.FnListJoinsAtAnyCut': WHATEVER THE INPUT: true; the input reads as it did. -/
def fnListJoinsAtAnyCutSpec : ChangeSpec := { name := "fnListJoinsAtAnyCut", fn := fun _ => fun
  | [d1, d2, d3, d4, d5] => { results := [.lit (.bool true)], args := [d1, d2, d3, d4, d5] }
  | _ => none }
def fnListJoinsAtAnyCutRow : OpenClaim := { program := "qxb6619660a", sum := "ef50c38cbd2b0fd0071ce79eb4e821f97668d65573621de52b1708251a6e9f1b", func := "example.com/steerbook/steerbook/zzlaws_root_b1.FnListJoinsAtAnyCut", spec := "fnListJoinsAtAnyCut", inPlace := ["internal/abi.NoEscape", "internal/bytealg.MakeNoZero"], apart := false }
def FnListJoinsAtAnyCutSaid : Prop := fnListJoinsAtAnyCutRow.holds Try.pinned (OpenSpec.ofChange fnListJoinsAtAnyCutSpec)

/-- ITS FALSE NEIGHBOUR: 'it returns false'. Refute it at one input. -/
def fnListJoinsAtAnyCutWrong : ChangeSpec := { name := "fnListJoinsAtAnyCut", fn := fun _ => fun
  | [d1, d2, d3, d4, d5] => { results := [.lit (.bool false)], args := [d1, d2, d3, d4, d5] }
  | _ => none }
def FnListJoinsAtAnyCutWrongFalsely : Prop := fnListJoinsAtAnyCutRow.holds Try.pinned (OpenSpec.ofChange fnListJoinsAtAnyCutWrong)

/-- 'zzlaws_root_b1.FnNameAfterInsertAtAnyPlace': WHATEVER THE INPUT: true; the input reads as it did. -/
def fnNameAfterInsertAtAnyPlaceSpec : ChangeSpec := { name := "fnNameAfterInsertAtAnyPlace", fn := fun _ => fun
  | [d1, d2, d3, d4, d5] => { results := [.lit (.bool true)], args := [d1, d2, d3, d4, d5] }
  | _ => none }
def fnNameAfterInsertAtAnyPlaceRow : OpenClaim := { program := "qxb6619660a", sum := "ef50c38cbd2b0fd0071ce79eb4e821f97668d65573621de52b1708251a6e9f1b", func := "example.com/steerbook/steerbook/zzlaws_root_b1.FnNameAfterInsertAtAnyPlace", spec := "fnNameAfterInsertAtAnyPlace", apart := false }
def FnNameAfterInsertAtAnyPlaceSaid : Prop := fnNameAfterInsertAtAnyPlaceRow.holds Try.pinned (OpenSpec.ofChange fnNameAfterInsertAtAnyPlaceSpec)

/-- ITS FALSE NEIGHBOUR: 'it returns false'. Refute it at one input. -/
def fnNameAfterInsertAtAnyPlaceWrong : ChangeSpec := { name := "fnNameAfterInsertAtAnyPlace", fn := fun _ => fun
  | [d1, d2, d3, d4, d5] => { results := [.lit (.bool false)], args := [d1, d2, d3, d4, d5] }
  | _ => none }
def FnNameAfterInsertAtAnyPlaceWrongFalsely : Prop := fnNameAfterInsertAtAnyPlaceRow.holds Try.pinned (OpenSpec.ofChange fnNameAfterInsertAtAnyPlaceWrong)

/-- 'zzlaws_root_b1.FnListAgreesWithName': WHATEVER THE INPUT: true; the input reads as it did. -/
def fnListAgreesWithNameSpec : ChangeSpec := { name := "fnListAgreesWithName", fn := fun _ => fun
  | [d1, d2, d3] => { results := [.lit (.bool true)], args := [d1, d2, d3] }
  | _ => none }
def fnListAgreesWithNameRow : OpenClaim := { program := "qxb6619660a", sum := "ef50c38cbd2b0fd0071ce79eb4e821f97668d65573621de52b1708251a6e9f1b", func := "example.com/steerbook/steerbook/zzlaws_root_b1.FnListAgreesWithName", spec := "fnListAgreesWithName", inPlace := ["internal/abi.NoEscape", "internal/bytealg.MakeNoZero"], apart := false }
def FnListAgreesWithNameSaid : Prop := fnListAgreesWithNameRow.holds Try.pinned (OpenSpec.ofChange fnListAgreesWithNameSpec)

/-- ITS FALSE NEIGHBOUR: 'it returns false'. Refute it at one input. -/
def fnListAgreesWithNameWrong : ChangeSpec := { name := "fnListAgreesWithName", fn := fun _ => fun
  | [d1, d2, d3] => { results := [.lit (.bool false)], args := [d1, d2, d3] }
  | _ => none }
def FnListAgreesWithNameWrongFalsely : Prop := fnListAgreesWithNameRow.holds Try.pinned (OpenSpec.ofChange fnListAgreesWithNameWrong)

end Rows
end Go.Proofs.Qxb6619660a
