/-
  No cell of these rows narrows 'for every input' (looked for: loops, veiled, ifaces, maps, wideKeys, modest, calm, conditions, laid).
  DERIVED. THE GIVEN ROWS OF THIS SEAT. 1 by the template 'for every input the law returns true; each argument reads behind the call as it read before'; 0 by the template 'total and deterministic' (their statements: Qxb6603507aTotals.lean).
  GIVEN WITH THE SEED: the statements are not yours to turn. If you find one false, say at which input.
  Laid BY PROGRAM, IN A SANDBOX (cutbox-rows.mjs): the forced cells as the released guide's own fill.sh prints them over the translation 73c5141042f4480e… (all of the seat's roots in one cut). By AI agents, Wed Nov 11 2026. No macro, syntax, notation, axiom, sorry.
-/
import Derived.Test.Qxb6603507aChecked
import GoSem.Claim
import GoSem.ClaimJoined
import GoSem.ClaimMapViews
import Derived.JoinedTies
import Derived.KernelRfl
namespace Go.Proofs.Qxb6603507a
/- THE CELL 'sum', in the pinned program and in every row, IS THE sha256 OF THE DUMP (.gsa) THAT Qxb6603507aProg.lean LOADS. Nothing in Lean hashes anything: it is a label: what it is worth is what the hold of that sum in a sandbox is worth. -/
noncomputable def Try.pinned : Pinned := { name := "qxb6603507a", sum := "73c5141042f4480e8b030046284046a4b4cb20af10bb00f51a8d0ed577cca465", checked := Try.checked }
namespace Rows
def none {H : Type} : Left H := { results := [], args := [] }

/-- 'zzlaws_internal_clip_b1.FnSplitExact': WHATEVER THE INPUT: true; the input reads as it did. -/
def fnSplitExactSpec : ChangeSpec := { name := "fnSplitExact", fn := fun _ => fun
  | [d] => { results := [.lit (.bool true)], args := [d] }
  | _ => none }
def fnSplitExactRow : OpenClaim := { program := "qxb6603507a", sum := "73c5141042f4480e8b030046284046a4b4cb20af10bb00f51a8d0ed577cca465", func := "example.com/duebook/duebook/zzlaws_internal_clip_b1.FnSplitExact", spec := "fnSplitExact", apart := false }
def FnSplitExactSaid : Prop := fnSplitExactRow.holds Try.pinned (OpenSpec.ofChange fnSplitExactSpec)

/-- ITS FALSE NEIGHBOUR: 'it returns false'. Refute it at one input. -/
def fnSplitExactWrong : ChangeSpec := { name := "fnSplitExact", fn := fun _ => fun
  | [d] => { results := [.lit (.bool false)], args := [d] }
  | _ => none }
def FnSplitExactWrongFalsely : Prop := fnSplitExactRow.holds Try.pinned (OpenSpec.ofChange fnSplitExactWrong)

end Rows
end Go.Proofs.Qxb6603507a
