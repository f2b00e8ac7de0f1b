/-
  No cell of these rows narrows 'for every input' (looked for: loops, veiled, ifaces, maps, wideKeys, modest, calm, conditions, laid).
  DERIVED. THE GIVEN ROWS OF THIS SEAT. 2 by the template 'for every input the law returns true; each argument reads behind the call as it read before'; 0 by the template 'total and deterministic' (their statements: Qxb6619410aTotals.lean).
  GIVEN WITH THE SEED: the statements are not yours to turn. If you find one false, say at which input.
  Laid BY PROGRAM, IN A SANDBOX (cutbox-rows.mjs): the forced cells as the released guide's own fill.sh prints them over the translation f366d757d60c5efa… (all of the seat's roots in one cut). By AI agents, Wed Nov 11 2026. No macro, syntax, notation, axiom, sorry.
-/
import Derived.Test.Qxb6619410aChecked
import GoSem.Claim
import GoSem.ClaimJoined
import GoSem.ClaimMapViews
import Derived.JoinedTies
import Derived.KernelRfl
namespace Go.Proofs.Qxb6619410a
/- THE CELL 'sum', in the pinned program and in every row, IS THE sha256 OF THE DUMP (.gsa) THAT Qxb6619410aProg.lean LOADS. Nothing in Lean hashes anything: it is a label: what it is worth is what the hold of that sum in a sandbox is worth. -/
noncomputable def Try.pinned : Pinned := { name := "qxb6619410a", sum := "f366d757d60c5efa5432ce7e9df28b96bc912c67b2575a606e41eb38d1f3abd6", checked := Try.checked }
namespace Rows
def none {H : Type} : Left H := { results := [], args := [] }

/-- 'zzlaws_internal_lp_b1.FnExactStartRenumbersArtificials': WHATEVER THE INPUT: true; the input reads as it did. -/
def fnExactStartRenumbersArtificialsSpec : ChangeSpec := { name := "fnExactStartRenumbersArtificials", fn := fun _ => fun
  | [d1, d2, d3, d4, d5, d6] => { results := [.lit (.bool true)], args := [d1, d2, d3, d4, d5, d6] }
  | _ => none }
def fnExactStartRenumbersArtificialsRow : OpenClaim := { program := "qxb6619410a", sum := "f366d757d60c5efa5432ce7e9df28b96bc912c67b2575a606e41eb38d1f3abd6", func := "example.com/hullward/hullward/zzlaws_internal_lp_b1.FnExactStartRenumbersArtificials", spec := "fnExactStartRenumbersArtificials", apart := false }
def FnExactStartRenumbersArtificialsSaid : Prop := fnExactStartRenumbersArtificialsRow.holds Try.pinned (OpenSpec.ofChange fnExactStartRenumbersArtificialsSpec)

/-- ITS FALSE NEIGHBOUR: 'it returns false'. Refute it at one input. -/
def fnExactStartRenumbersArtificialsWrong : ChangeSpec := { name := "fnExactStartRenumbersArtificials", fn := fun _ => fun
  | [d1, d2, d3, d4, d5, d6] => { results := [.lit (.bool false)], args := [d1, d2, d3, d4, d5, d6] }
  | _ => none }
def FnExactStartRenumbersArtificialsWrongFalsely : Prop := fnExactStartRenumbersArtificialsRow.holds Try.pinned (OpenSpec.ofChange fnExactStartRenumbersArtificialsWrong)

/-- 'zzlaws_internal_lp_b1.FnPivotKeepsCanonicalForm': WHATEVER THE INPUT: true; the input reads as it did. -/
def fnPivotKeepsCanonicalFormSpec : ChangeSpec := { name := "fnPivotKeepsCanonicalForm", fn := fun _ => fun
  | [d1, d2, d3, d4, d5] => { results := [.lit (.bool true)], args := [d1, d2, d3, d4, d5] }
  | _ => none }
def fnPivotKeepsCanonicalFormRow : OpenClaim := { program := "qxb6619410a", sum := "f366d757d60c5efa5432ce7e9df28b96bc912c67b2575a606e41eb38d1f3abd6", func := "example.com/hullward/hullward/zzlaws_internal_lp_b1.FnPivotKeepsCanonicalForm", spec := "fnPivotKeepsCanonicalForm", apart := false }
def FnPivotKeepsCanonicalFormSaid : Prop := fnPivotKeepsCanonicalFormRow.holds Try.pinned (OpenSpec.ofChange fnPivotKeepsCanonicalFormSpec)

/-- ITS FALSE NEIGHBOUR: 'it returns false'. Refute it at one input. -/
def fnPivotKeepsCanonicalFormWrong : ChangeSpec := { name := "fnPivotKeepsCanonicalForm", fn := fun _ => fun
  | [d1, d2, d3, d4, d5] => { results := [.lit (.bool false)], args := [d1, d2, d3, d4, d5] }
  | _ => none }
def FnPivotKeepsCanonicalFormWrongFalsely : Prop := fnPivotKeepsCanonicalFormRow.holds Try.pinned (OpenSpec.ofChange fnPivotKeepsCanonicalFormWrong)

end Rows
end Go.Proofs.Qxb6619410a
