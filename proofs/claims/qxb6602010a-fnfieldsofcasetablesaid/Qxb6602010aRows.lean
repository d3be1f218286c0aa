/-
  No cell of these rows narrows 'for every input' (looked for: loops, veiled, ifaces, maps, wideKeys, modest, calm, conditions, laid).
  DERIVED. THE GIVEN ROWS OF THIS SEAT. 5 by the template 'for every input the law returns true; each argument reads behind the call as it read before'; 0 by the template 'total and deterministic' (their statements: Qxb6602010aTotals.lean).
  GIVEN WITH THE SEED: the statements are not yours to turn. If you find one false, say at which input.
  Laid BY PROGRAM, IN A SANDBOX (cutbox-rows.mjs): the forced cells as the released guide's own fill.sh prints them over the translation 2f3537e123f18b7f… (all of the seat's roots in one cut). By AI agents, Wed Nov 11 2026. No macro, syntax, notation, axiom, sorry.
-/
import Derived.Test.Qxb6602010aChecked
import GoSem.Claim
import GoSem.ClaimJoined
import GoSem.ClaimMapViews
import Derived.JoinedTies
import Derived.KernelRfl
namespace Go.Proofs.Qxb6602010a
/- THE CELL 'sum', in the pinned program and in every row, IS THE sha256 OF THE DUMP (.gsa) THAT Qxb6602010aProg.lean LOADS. Nothing in Lean hashes anything: it is a label: what it is worth is what the hold of that sum in a sandbox is worth. -/
noncomputable def Try.pinned : Pinned := { name := "qxb6602010a", sum := "2f3537e123f18b7fca2c8b235d4a16bb2b99ac6a8ae5bde88570d4aad7c954d1", checked := Try.checked }
namespace Rows
def none {H : Type} : Left H := { results := [], args := [] }

/-- 'zzlaws_internal_history_b1.FnModifiedAtIsIntersection': WHATEVER THE INPUT: true; the input reads as it did. -/
def fnModifiedAtIsIntersectionSpec : ChangeSpec := { name := "fnModifiedAtIsIntersection", fn := fun _ => fun
  | [d1, d2, d3, d4, d5] => { results := [.lit (.bool true)], args := [d1, d2, d3, d4, d5] }
  | _ => none }
def fnModifiedAtIsIntersectionRow : OpenClaim := { program := "qxb6602010a", sum := "2f3537e123f18b7fca2c8b235d4a16bb2b99ac6a8ae5bde88570d4aad7c954d1", func := "example.com/quorate/quorate/zzlaws_internal_history_b1.FnModifiedAtIsIntersection", spec := "fnModifiedAtIsIntersection", apart := false }
def FnModifiedAtIsIntersectionSaid : Prop := fnModifiedAtIsIntersectionRow.holds Try.pinned (OpenSpec.ofChange fnModifiedAtIsIntersectionSpec)

/-- ITS FALSE NEIGHBOUR: 'it returns false'. Refute it at one input. -/
def fnModifiedAtIsIntersectionWrong : ChangeSpec := { name := "fnModifiedAtIsIntersection", fn := fun _ => fun
  | [d1, d2, d3, d4, d5] => { results := [.lit (.bool false)], args := [d1, d2, d3, d4, d5] }
  | _ => none }
def FnModifiedAtIsIntersectionWrongFalsely : Prop := fnModifiedAtIsIntersectionRow.holds Try.pinned (OpenSpec.ofChange fnModifiedAtIsIntersectionWrong)

/-- 'zzlaws_internal_history_b1.FnModifiedAtPinsTheIndex': WHATEVER THE INPUT: true; the input reads as it did. -/
def fnModifiedAtPinsTheIndexSpec : ChangeSpec := { name := "fnModifiedAtPinsTheIndex", fn := fun _ => fun
  | [d1, d2, d3, d4, d5, d6] => { results := [.lit (.bool true)], args := [d1, d2, d3, d4, d5, d6] }
  | _ => none }
def fnModifiedAtPinsTheIndexRow : OpenClaim := { program := "qxb6602010a", sum := "2f3537e123f18b7fca2c8b235d4a16bb2b99ac6a8ae5bde88570d4aad7c954d1", func := "example.com/quorate/quorate/zzlaws_internal_history_b1.FnModifiedAtPinsTheIndex", spec := "fnModifiedAtPinsTheIndex", apart := false }
def FnModifiedAtPinsTheIndexSaid : Prop := fnModifiedAtPinsTheIndexRow.holds Try.pinned (OpenSpec.ofChange fnModifiedAtPinsTheIndexSpec)

/-- ITS FALSE NEIGHBOUR: 'it returns false'. Refute it at one input. -/
def fnModifiedAtPinsTheIndexWrong : ChangeSpec := { name := "fnModifiedAtPinsTheIndex", fn := fun _ => fun
  | [d1, d2, d3, d4, d5, d6] => { results := [.lit (.bool false)], args := [d1, d2, d3, d4, d5, d6] }
  | _ => none }
def FnModifiedAtPinsTheIndexWrongFalsely : Prop := fnModifiedAtPinsTheIndexRow.holds Try.pinned (OpenSpec.ofChange fnModifiedAtPinsTheIndexWrong)

/-- 'zzlaws_internal_history_b1.FnNotModifiedAtPartitions': WHATEVER THE INPUT: true; the input reads as it did. -/
def fnNotModifiedAtPartitionsSpec : ChangeSpec := { name := "fnNotModifiedAtPartitions", fn := fun _ => fun
  | [d1, d2, d3, d4, d5, d6] => { results := [.lit (.bool true)], args := [d1, d2, d3, d4, d5, d6] }
  | _ => none }
def fnNotModifiedAtPartitionsRow : OpenClaim := { program := "qxb6602010a", sum := "2f3537e123f18b7fca2c8b235d4a16bb2b99ac6a8ae5bde88570d4aad7c954d1", func := "example.com/quorate/quorate/zzlaws_internal_history_b1.FnNotModifiedAtPartitions", spec := "fnNotModifiedAtPartitions", apart := false }
def FnNotModifiedAtPartitionsSaid : Prop := fnNotModifiedAtPartitionsRow.holds Try.pinned (OpenSpec.ofChange fnNotModifiedAtPartitionsSpec)

/-- ITS FALSE NEIGHBOUR: 'it returns false'. Refute it at one input. -/
def fnNotModifiedAtPartitionsWrong : ChangeSpec := { name := "fnNotModifiedAtPartitions", fn := fun _ => fun
  | [d1, d2, d3, d4, d5, d6] => { results := [.lit (.bool false)], args := [d1, d2, d3, d4, d5, d6] }
  | _ => none }
def FnNotModifiedAtPartitionsWrongFalsely : Prop := fnNotModifiedAtPartitionsRow.holds Try.pinned (OpenSpec.ofChange fnNotModifiedAtPartitionsWrong)

/-- 'zzlaws_internal_history_b1.FnFieldsOfCaseTable': WHATEVER THE INPUT: true; the input reads as it did. -/
def fnFieldsOfCaseTableSpec : ChangeSpec := { name := "fnFieldsOfCaseTable", fn := fun _ => fun
  | [d1, d2, d3, d4, d5, d6, d7, d8, d9, d10, d11] => { results := [.lit (.bool true)], args := [d1, d2, d3, d4, d5, d6, d7, d8, d9, d10, d11] }
  | _ => none }
def fnFieldsOfCaseTableRow : OpenClaim := { program := "qxb6602010a", sum := "2f3537e123f18b7fca2c8b235d4a16bb2b99ac6a8ae5bde88570d4aad7c954d1", func := "example.com/quorate/quorate/zzlaws_internal_history_b1.FnFieldsOfCaseTable", spec := "fnFieldsOfCaseTable", apart := false }
def FnFieldsOfCaseTableSaid : Prop := fnFieldsOfCaseTableRow.holds Try.pinned (OpenSpec.ofChange fnFieldsOfCaseTableSpec)

/-- ITS FALSE NEIGHBOUR: 'it returns false'. Refute it at one input. -/
def fnFieldsOfCaseTableWrong : ChangeSpec := { name := "fnFieldsOfCaseTable", fn := fun _ => fun
  | [d1, d2, d3, d4, d5, d6, d7, d8, d9, d10, d11] => { results := [.lit (.bool false)], args := [d1, d2, d3, d4, d5, d6, d7, d8, d9, d10, d11] }
  | _ => none }
def FnFieldsOfCaseTableWrongFalsely : Prop := fnFieldsOfCaseTableRow.holds Try.pinned (OpenSpec.ofChange fnFieldsOfCaseTableWrong)

/-- 'zzlaws_internal_history_b1.FnFieldsOfIgnoresIdentity': WHATEVER THE INPUT: true; the input reads as it did. -/
def fnFieldsOfIgnoresIdentitySpec : ChangeSpec := { name := "fnFieldsOfIgnoresIdentity", fn := fun _ => fun
  | [d1, d2, d3, d4, d5, d6, d7, d8, d9, d10, d11] => { results := [.lit (.bool true)], args := [d1, d2, d3, d4, d5, d6, d7, d8, d9, d10, d11] }
  | _ => none }
def fnFieldsOfIgnoresIdentityRow : OpenClaim := { program := "qxb6602010a", sum := "2f3537e123f18b7fca2c8b235d4a16bb2b99ac6a8ae5bde88570d4aad7c954d1", func := "example.com/quorate/quorate/zzlaws_internal_history_b1.FnFieldsOfIgnoresIdentity", spec := "fnFieldsOfIgnoresIdentity", apart := false }
def FnFieldsOfIgnoresIdentitySaid : Prop := fnFieldsOfIgnoresIdentityRow.holds Try.pinned (OpenSpec.ofChange fnFieldsOfIgnoresIdentitySpec)

/-- ITS FALSE NEIGHBOUR: 'it returns false'. Refute it at one input. -/
def fnFieldsOfIgnoresIdentityWrong : ChangeSpec := { name := "fnFieldsOfIgnoresIdentity", fn := fun _ => fun
  | [d1, d2, d3, d4, d5, d6, d7, d8, d9, d10, d11] => { results := [.lit (.bool false)], args := [d1, d2, d3, d4, d5, d6, d7, d8, d9, d10, d11] }
  | _ => none }
def FnFieldsOfIgnoresIdentityWrongFalsely : Prop := fnFieldsOfIgnoresIdentityRow.holds Try.pinned (OpenSpec.ofChange fnFieldsOfIgnoresIdentityWrong)

end Rows
end Go.Proofs.Qxb6602010a
