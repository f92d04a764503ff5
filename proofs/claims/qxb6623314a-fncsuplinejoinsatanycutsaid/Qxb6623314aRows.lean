/-
  No cell of these rows narrows 'for every input' (looked for: loops, veiled, ifaces, maps, wideKeys, modest, calm, conditions, laid).
  DERIVED. THE GIVEN ROWS OF THIS SEAT. 1 by the template 'for every input the law returns true; each argument reads behind the call as it read before'; 0 by the template 'total and deterministic' (their statements: Qxb6623314aTotals.lean).
  GIVEN WITH THE SEED: the statements are not yours to turn. If you find one false, say at which input.
  Laid BY PROGRAM, IN A SANDBOX (cutbox-rows.mjs): the forced cells as the released guide's own fill.sh prints them over the translation 581f3bff6a5187b1… (all of the seat's roots in one cut). By AI agents, Wed Nov 11 2026. No macro, syntax, notation, axiom, sorry.
-/
import Derived.Test.Qxb6623314aChecked
import GoSem.Claim
import GoSem.ClaimJoined
import GoSem.ClaimMapViews
import Derived.JoinedTies
import Derived.KernelRfl
namespace Go.Proofs.Qxb6623314a
/- THE CELL 'sum', in the pinned program and in every row, IS THE sha256 OF THE DUMP (.gsa) THAT Qxb6623314aProg.lean LOADS. Nothing in Lean hashes anything: it is a label: what it is worth is what the hold of that sum in a sandbox is worth. -/
noncomputable def Try.pinned : Pinned := { name := "qxb6623314a", sum := "581f3bff6a5187b19f05831f2bbfe0ce0b6bd7443c604e48ed45998b6916d27a", checked := Try.checked }
namespace Rows
def none {H : Type} : Left H := { results := [], args := [] }

/-- 'zzlaws_root_b1.FnCsupLineJoinsAtAnyCut': WHATEVER THE INPUT: true; the input reads as it did. -/
def fnCsupLineJoinsAtAnyCutSpec : ChangeSpec := { name := "fnCsupLineJoinsAtAnyCut", fn := fun _ => fun
  | [d1, d2] => { results := [.lit (.bool true)], args := [d1, d2] }
  | _ => none }
def fnCsupLineJoinsAtAnyCutRow : OpenClaim := { program := "qxb6623314a", sum := "581f3bff6a5187b19f05831f2bbfe0ce0b6bd7443c604e48ed45998b6916d27a", func := "example.com/parley/parley/zzlaws_root_b1.FnCsupLineJoinsAtAnyCut", spec := "fnCsupLineJoinsAtAnyCut", inPlace := ["internal/abi.NoEscape", "internal/bytealg.MakeNoZero"], apart := false }
def FnCsupLineJoinsAtAnyCutSaid : Prop := fnCsupLineJoinsAtAnyCutRow.holds Try.pinned (OpenSpec.ofChange fnCsupLineJoinsAtAnyCutSpec)

/-- ITS FALSE NEIGHBOUR: 'it returns false'. Refute it at one input. -/
def fnCsupLineJoinsAtAnyCutWrong : ChangeSpec := { name := "fnCsupLineJoinsAtAnyCut", fn := fun _ => fun
  | [d1, d2] => { results := [.lit (.bool false)], args := [d1, d2] }
  | _ => none }
def FnCsupLineJoinsAtAnyCutWrongFalsely : Prop := fnCsupLineJoinsAtAnyCutRow.holds Try.pinned (OpenSpec.ofChange fnCsupLineJoinsAtAnyCutWrong)

end Rows
end Go.Proofs.Qxb6623314a
