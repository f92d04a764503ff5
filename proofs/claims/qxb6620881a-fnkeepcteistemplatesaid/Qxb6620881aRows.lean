/-
  No cell of these rows narrows 'for every input' (looked for: loops, veiled, ifaces, maps, wideKeys, modest, calm, conditions, laid).
  DERIVED. THE GIVEN ROWS OF THIS SEAT. 1 by the template 'for every input the law returns true; each argument reads behind the call as it read before'; 0 by the template 'total and deterministic' (their statements: Qxb6620881aTotals.lean).
  GIVEN WITH THE SEED: the statements are not yours to turn. If you find one false, say at which input.
  Laid BY PROGRAM, IN A SANDBOX (cutbox-rows.mjs): the forced cells as the released guide's own fill.sh prints them over the translation 6a3ec8a2f2fa121a… (all of the seat's roots in one cut). By AI agents, Wed Nov 11 2026. No macro, syntax, notation, axiom, sorry.
-/
import Derived.Test.Qxb6620881aChecked
import GoSem.Claim
import GoSem.ClaimJoined
import GoSem.ClaimMapViews
import Derived.JoinedTies
import Derived.KernelRfl
namespace Go.Proofs.Qxb6620881a
/- THE CELL 'sum', in the pinned program and in every row, IS THE sha256 OF THE DUMP (.gsa) THAT Qxb6620881aProg.lean LOADS. Nothing in Lean hashes anything: it is a label: what it is worth is what the hold of that sum in a sandbox is worth. -/
noncomputable def Try.pinned : Pinned := { name := "qxb6620881a", sum := "6a3ec8a2f2fa121ab7442de7c32450f636c5be00f8abb2ce251a95e02b37ac96", checked := Try.checked }
namespace Rows
def none {H : Type} : Left H := { results := [], args := [] }

/-- 'zzlaws_internal_idempotency_b1.FnKeepCTEIsTemplate': WHATEVER THE INPUT: true; the input reads as it did. -/
def fnKeepCTEIsTemplateSpec : ChangeSpec := { name := "fnKeepCTEIsTemplate", fn := fun _ => fun
  | [d1, d2] => { results := [.lit (.bool true)], args := [d1, d2] }
  | _ => none }
def fnKeepCTEIsTemplateRow : OpenClaim := { program := "qxb6620881a", sum := "6a3ec8a2f2fa121ab7442de7c32450f636c5be00f8abb2ce251a95e02b37ac96", func := "example.com/tallyhold/tallyhold/zzlaws_internal_idempotency_b1.FnKeepCTEIsTemplate", spec := "fnKeepCTEIsTemplate", apart := false }
def FnKeepCTEIsTemplateSaid : Prop := fnKeepCTEIsTemplateRow.holds Try.pinned (OpenSpec.ofChange fnKeepCTEIsTemplateSpec)

/-- ITS FALSE NEIGHBOUR: 'it returns false'. Refute it at one input. -/
def fnKeepCTEIsTemplateWrong : ChangeSpec := { name := "fnKeepCTEIsTemplate", fn := fun _ => fun
  | [d1, d2] => { results := [.lit (.bool false)], args := [d1, d2] }
  | _ => none }
def FnKeepCTEIsTemplateWrongFalsely : Prop := fnKeepCTEIsTemplateRow.holds Try.pinned (OpenSpec.ofChange fnKeepCTEIsTemplateWrong)

end Rows
end Go.Proofs.Qxb6620881a
