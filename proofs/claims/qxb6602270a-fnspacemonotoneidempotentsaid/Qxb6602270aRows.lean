/-
  No cell of these rows narrows 'for every input' (looked for: loops, veiled, ifaces, maps, wideKeys, modest, calm, conditions, laid).
  DERIVED. THE GIVEN ROWS OF THIS SEAT. 3 by the template 'for every input the law returns true; each argument reads behind the call as it read before'; 0 by the template 'total and deterministic' (their statements: Qxb6602270aTotals.lean).
  GIVEN WITH THE SEED: the statements are not yours to turn. If you find one false, say at which input.
  Laid BY PROGRAM, IN A SANDBOX (cutbox-rows.mjs): the forced cells as the released guide's own fill.sh prints them over the translation b9a526d3be981d4d… (all of the seat's roots in one cut). By AI agents, Wed Nov 11 2026. No macro, syntax, notation, axiom, sorry.
-/
import Derived.Test.Qxb6602270aChecked
import GoSem.Claim
import GoSem.ClaimJoined
import GoSem.ClaimMapViews
import Derived.JoinedTies
import Derived.KernelRfl
namespace Go.Proofs.Qxb6602270a
/- THE CELL 'sum', in the pinned program and in every row, IS THE sha256 OF THE DUMP (.gsa) THAT Qxb6602270aProg.lean LOADS. Nothing in Lean hashes anything: it is a label: what it is worth is what the hold of that sum in a sandbox is worth. -/
noncomputable def Try.pinned : Pinned := { name := "qxb6602270a", sum := "b9a526d3be981d4d3addff19e3840b5b224bbad3fc15fe9acff624daa63a410d", checked := Try.checked }
namespace Rows
def none {H : Type} : Left H := { results := [], args := [] }

/-- 'zzlaws_internal_jcs_b1.FnSpaceFirstNonBlank': WHATEVER THE INPUT: true; the input reads as it did. -/
def fnSpaceFirstNonBlankSpec : ChangeSpec := { name := "fnSpaceFirstNonBlank", fn := fun _ => fun
  | [d1, d2] => { results := [.lit (.bool true)], args := [d1, d2] }
  | _ => none }
def fnSpaceFirstNonBlankRow : OpenClaim := { program := "qxb6602270a", sum := "b9a526d3be981d4d3addff19e3840b5b224bbad3fc15fe9acff624daa63a410d", func := "example.com/proxyseal/proxyseal/zzlaws_internal_jcs_b1.FnSpaceFirstNonBlank", spec := "fnSpaceFirstNonBlank", apart := false }
def FnSpaceFirstNonBlankSaid : Prop := fnSpaceFirstNonBlankRow.holds Try.pinned (OpenSpec.ofChange fnSpaceFirstNonBlankSpec)

/-- ITS FALSE NEIGHBOUR: 'it returns false'. Refute it at one input. -/
def fnSpaceFirstNonBlankWrong : ChangeSpec := { name := "fnSpaceFirstNonBlank", fn := fun _ => fun
  | [d1, d2] => { results := [.lit (.bool false)], args := [d1, d2] }
  | _ => none }
def FnSpaceFirstNonBlankWrongFalsely : Prop := fnSpaceFirstNonBlankRow.holds Try.pinned (OpenSpec.ofChange fnSpaceFirstNonBlankWrong)

/-- 'zzlaws_internal_jcs_b1.FnSpaceMonotoneIdempotent': WHATEVER THE INPUT: true; the input reads as it did. -/
def fnSpaceMonotoneIdempotentSpec : ChangeSpec := { name := "fnSpaceMonotoneIdempotent", fn := fun _ => fun
  | [d1, d2, d3] => { results := [.lit (.bool true)], args := [d1, d2, d3] }
  | _ => none }
def fnSpaceMonotoneIdempotentRow : OpenClaim := { program := "qxb6602270a", sum := "b9a526d3be981d4d3addff19e3840b5b224bbad3fc15fe9acff624daa63a410d", func := "example.com/proxyseal/proxyseal/zzlaws_internal_jcs_b1.FnSpaceMonotoneIdempotent", spec := "fnSpaceMonotoneIdempotent", apart := false }
def FnSpaceMonotoneIdempotentSaid : Prop := fnSpaceMonotoneIdempotentRow.holds Try.pinned (OpenSpec.ofChange fnSpaceMonotoneIdempotentSpec)

/-- ITS FALSE NEIGHBOUR: 'it returns false'. Refute it at one input. -/
def fnSpaceMonotoneIdempotentWrong : ChangeSpec := { name := "fnSpaceMonotoneIdempotent", fn := fun _ => fun
  | [d1, d2, d3] => { results := [.lit (.bool false)], args := [d1, d2, d3] }
  | _ => none }
def FnSpaceMonotoneIdempotentWrongFalsely : Prop := fnSpaceMonotoneIdempotentRow.holds Try.pinned (OpenSpec.ofChange fnSpaceMonotoneIdempotentWrong)

/-- 'zzlaws_internal_jcs_b1.FnConsumeLoopAgreesWithSpace': WHATEVER THE INPUT: true; the input reads as it did. -/
def fnConsumeLoopAgreesWithSpaceSpec : ChangeSpec := { name := "fnConsumeLoopAgreesWithSpace", fn := fun _ => fun
  | [d1, d2] => { results := [.lit (.bool true)], args := [d1, d2] }
  | _ => none }
def fnConsumeLoopAgreesWithSpaceRow : OpenClaim := { program := "qxb6602270a", sum := "b9a526d3be981d4d3addff19e3840b5b224bbad3fc15fe9acff624daa63a410d", func := "example.com/proxyseal/proxyseal/zzlaws_internal_jcs_b1.FnConsumeLoopAgreesWithSpace", spec := "fnConsumeLoopAgreesWithSpace", apart := false }
def FnConsumeLoopAgreesWithSpaceSaid : Prop := fnConsumeLoopAgreesWithSpaceRow.holds Try.pinned (OpenSpec.ofChange fnConsumeLoopAgreesWithSpaceSpec)

/-- ITS FALSE NEIGHBOUR: 'it returns false'. Refute it at one input. -/
def fnConsumeLoopAgreesWithSpaceWrong : ChangeSpec := { name := "fnConsumeLoopAgreesWithSpace", fn := fun _ => fun
  | [d1, d2] => { results := [.lit (.bool false)], args := [d1, d2] }
  | _ => none }
def FnConsumeLoopAgreesWithSpaceWrongFalsely : Prop := fnConsumeLoopAgreesWithSpaceRow.holds Try.pinned (OpenSpec.ofChange fnConsumeLoopAgreesWithSpaceWrong)

end Rows
end Go.Proofs.Qxb6602270a
