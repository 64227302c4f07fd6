/-
  No cell of these rows narrows 'for every input' (looked for: loops, veiled, ifaces, maps, wideKeys, modest, calm, conditions, laid).
  DERIVED. THE GIVEN ROWS OF THIS SEAT. 6 by the template 'for every input the law returns true; each argument reads behind the call as it read before'; 0 by the template 'total and deterministic' (their statements: Qxb6602447aTotals.lean).
  GIVEN WITH THE SEED: the statements are not yours to turn. If you find one false, say at which input.
  Laid BY PROGRAM, IN A SANDBOX (cutbox-rows.mjs): the forced cells as the released guide's own fill.sh prints them over the translation cdd20f6fa1e98384… (all of the seat's roots in one cut). By AI agents, Wed Nov 11 2026. No macro, syntax, notation, axiom, sorry.
-/
import Derived.Test.Qxb6602447aChecked
import GoSem.Claim
import GoSem.ClaimJoined
import GoSem.ClaimMapViews
import Derived.JoinedTies
import Derived.KernelRfl
namespace Go.Proofs.Qxb6602447a
/- THE CELL 'sum', in the pinned program and in every row, IS THE sha256 OF THE DUMP (.gsa) THAT Qxb6602447aProg.lean LOADS. Nothing in Lean hashes anything: it is a label: what it is worth is what the hold of that sum in a sandbox is worth. -/
noncomputable def Try.pinned : Pinned := { name := "qxb6602447a", sum := "cdd20f6fa1e98384dedc06cbaa24d32bea7c7b6bdb6326a0369d1c9b23362e14", checked := Try.checked }
namespace Rows
def none {H : Type} : Left H := { results := [], args := [] }

/-- 'zzlaws_internal_jsonfields_b1.FnValueEndMatchesScanner': WHATEVER THE INPUT: true; the input reads as it did. -/
def fnValueEndMatchesScannerSpec : ChangeSpec := { name := "fnValueEndMatchesScanner", fn := fun _ => fun
  | [d1, d2] => { results := [.lit (.bool true)], args := [d1, d2] }
  | _ => none }
def fnValueEndMatchesScannerRow : OpenClaim := { program := "qxb6602447a", sum := "cdd20f6fa1e98384dedc06cbaa24d32bea7c7b6bdb6326a0369d1c9b23362e14", func := "example.com/numaweave/numaweave/zzlaws_internal_jsonfields_b1.FnValueEndMatchesScanner", spec := "fnValueEndMatchesScanner", inPlace := ["internal/bytealg.IndexByteString", "internal/bytealg.IndexString"], named := ["internal/bytealg.MaxLen"], apart := false }
def FnValueEndMatchesScannerSaid : Prop := fnValueEndMatchesScannerRow.holds Try.pinned (OpenSpec.ofChange fnValueEndMatchesScannerSpec)

/-- ITS FALSE NEIGHBOUR: 'it returns false'. Refute it at one input. -/
def fnValueEndMatchesScannerWrong : ChangeSpec := { name := "fnValueEndMatchesScanner", fn := fun _ => fun
  | [d1, d2] => { results := [.lit (.bool false)], args := [d1, d2] }
  | _ => none }
def FnValueEndMatchesScannerWrongFalsely : Prop := fnValueEndMatchesScannerRow.holds Try.pinned (OpenSpec.ofChange fnValueEndMatchesScannerWrong)

/-- 'zzlaws_internal_jsonfields_b1.FnValueEndReadsFromIOnward': WHATEVER THE INPUT: true; the input reads as it did. -/
def fnValueEndReadsFromIOnwardSpec : ChangeSpec := { name := "fnValueEndReadsFromIOnward", fn := fun _ => fun
  | [d1, d2] => { results := [.lit (.bool true)], args := [d1, d2] }
  | _ => none }
def fnValueEndReadsFromIOnwardRow : OpenClaim := { program := "qxb6602447a", sum := "cdd20f6fa1e98384dedc06cbaa24d32bea7c7b6bdb6326a0369d1c9b23362e14", func := "example.com/numaweave/numaweave/zzlaws_internal_jsonfields_b1.FnValueEndReadsFromIOnward", spec := "fnValueEndReadsFromIOnward", inPlace := ["internal/bytealg.IndexByteString", "internal/bytealg.IndexString"], named := ["internal/bytealg.MaxLen"], apart := false }
def FnValueEndReadsFromIOnwardSaid : Prop := fnValueEndReadsFromIOnwardRow.holds Try.pinned (OpenSpec.ofChange fnValueEndReadsFromIOnwardSpec)

/-- ITS FALSE NEIGHBOUR: 'it returns false'. Refute it at one input. -/
def fnValueEndReadsFromIOnwardWrong : ChangeSpec := { name := "fnValueEndReadsFromIOnward", fn := fun _ => fun
  | [d1, d2] => { results := [.lit (.bool false)], args := [d1, d2] }
  | _ => none }
def FnValueEndReadsFromIOnwardWrongFalsely : Prop := fnValueEndReadsFromIOnwardRow.holds Try.pinned (OpenSpec.ofChange fnValueEndReadsFromIOnwardWrong)

/-- 'zzlaws_internal_jsonfields_b1.FnValueEndPrefixClosed': WHATEVER THE INPUT: true; the input reads as it did. -/
def fnValueEndPrefixClosedSpec : ChangeSpec := { name := "fnValueEndPrefixClosed", fn := fun _ => fun
  | [d1, d2, d3] => { results := [.lit (.bool true)], args := [d1, d2, d3] }
  | _ => none }
def fnValueEndPrefixClosedRow : OpenClaim := { program := "qxb6602447a", sum := "cdd20f6fa1e98384dedc06cbaa24d32bea7c7b6bdb6326a0369d1c9b23362e14", func := "example.com/numaweave/numaweave/zzlaws_internal_jsonfields_b1.FnValueEndPrefixClosed", spec := "fnValueEndPrefixClosed", inPlace := ["internal/bytealg.IndexByteString", "internal/bytealg.IndexString"], named := ["internal/bytealg.MaxLen"], apart := false }
def FnValueEndPrefixClosedSaid : Prop := fnValueEndPrefixClosedRow.holds Try.pinned (OpenSpec.ofChange fnValueEndPrefixClosedSpec)

/-- ITS FALSE NEIGHBOUR: 'it returns false'. Refute it at one input. -/
def fnValueEndPrefixClosedWrong : ChangeSpec := { name := "fnValueEndPrefixClosed", fn := fun _ => fun
  | [d1, d2, d3] => { results := [.lit (.bool false)], args := [d1, d2, d3] }
  | _ => none }
def FnValueEndPrefixClosedWrongFalsely : Prop := fnValueEndPrefixClosedRow.holds Try.pinned (OpenSpec.ofChange fnValueEndPrefixClosedWrong)

/-- 'zzlaws_internal_jsonfields_b1.FnMemberStartReadsNoFurther': WHATEVER THE INPUT: true; the input reads as it did. -/
def fnMemberStartReadsNoFurtherSpec : ChangeSpec := { name := "fnMemberStartReadsNoFurther", fn := fun _ => fun
  | [d1, d2, d3] => { results := [.lit (.bool true)], args := [d1, d2, d3] }
  | _ => none }
def fnMemberStartReadsNoFurtherRow : OpenClaim := { program := "qxb6602447a", sum := "cdd20f6fa1e98384dedc06cbaa24d32bea7c7b6bdb6326a0369d1c9b23362e14", func := "example.com/numaweave/numaweave/zzlaws_internal_jsonfields_b1.FnMemberStartReadsNoFurther", spec := "fnMemberStartReadsNoFurther", inPlace := ["internal/bytealg.IndexByteString", "internal/bytealg.IndexString"], named := ["internal/bytealg.MaxLen"], apart := false }
def FnMemberStartReadsNoFurtherSaid : Prop := fnMemberStartReadsNoFurtherRow.holds Try.pinned (OpenSpec.ofChange fnMemberStartReadsNoFurtherSpec)

/-- ITS FALSE NEIGHBOUR: 'it returns false'. Refute it at one input. -/
def fnMemberStartReadsNoFurtherWrong : ChangeSpec := { name := "fnMemberStartReadsNoFurther", fn := fun _ => fun
  | [d1, d2, d3] => { results := [.lit (.bool false)], args := [d1, d2, d3] }
  | _ => none }
def FnMemberStartReadsNoFurtherWrongFalsely : Prop := fnMemberStartReadsNoFurtherRow.holds Try.pinned (OpenSpec.ofChange fnMemberStartReadsNoFurtherWrong)

/-- 'zzlaws_internal_jsonfields_b1.FnMemberStartFindsBuiltMembers': WHATEVER THE INPUT: true; the input reads as it did. -/
def fnMemberStartFindsBuiltMembersSpec : ChangeSpec := { name := "fnMemberStartFindsBuiltMembers", fn := fun _ => fun
  | [d1, d2, d3] => { results := [.lit (.bool true)], args := [d1, d2, d3] }
  | _ => none }
def fnMemberStartFindsBuiltMembersRow : OpenClaim := { program := "qxb6602447a", sum := "cdd20f6fa1e98384dedc06cbaa24d32bea7c7b6bdb6326a0369d1c9b23362e14", func := "example.com/numaweave/numaweave/zzlaws_internal_jsonfields_b1.FnMemberStartFindsBuiltMembers", spec := "fnMemberStartFindsBuiltMembers", inPlace := ["internal/bytealg.IndexByteString", "internal/bytealg.IndexString"], named := ["internal/bytealg.MaxLen"], apart := false }
def FnMemberStartFindsBuiltMembersSaid : Prop := fnMemberStartFindsBuiltMembersRow.holds Try.pinned (OpenSpec.ofChange fnMemberStartFindsBuiltMembersSpec)

/-- ITS FALSE NEIGHBOUR: 'it returns false'. Refute it at one input. -/
def fnMemberStartFindsBuiltMembersWrong : ChangeSpec := { name := "fnMemberStartFindsBuiltMembers", fn := fun _ => fun
  | [d1, d2, d3] => { results := [.lit (.bool false)], args := [d1, d2, d3] }
  | _ => none }
def FnMemberStartFindsBuiltMembersWrongFalsely : Prop := fnMemberStartFindsBuiltMembersRow.holds Try.pinned (OpenSpec.ofChange fnMemberStartFindsBuiltMembersWrong)

/-- 'zzlaws_internal_jsonfields_b1.FnFieldsMetAddRemembersFirstLine': WHATEVER THE INPUT: true; the input reads as it did. -/
def fnFieldsMetAddRemembersFirstLineSpec : ChangeSpec := { name := "fnFieldsMetAddRemembersFirstLine", fn := fun _ => fun
  | [d] => { results := [.lit (.bool true)], args := [d] }
  | _ => none }
def fnFieldsMetAddRemembersFirstLineRow : OpenClaim := { program := "qxb6602447a", sum := "cdd20f6fa1e98384dedc06cbaa24d32bea7c7b6bdb6326a0369d1c9b23362e14", func := "example.com/numaweave/numaweave/zzlaws_internal_jsonfields_b1.FnFieldsMetAddRemembersFirstLine", spec := "fnFieldsMetAddRemembersFirstLine", apart := false }
def FnFieldsMetAddRemembersFirstLineSaid : Prop := fnFieldsMetAddRemembersFirstLineRow.holds Try.pinned (OpenSpec.ofChange fnFieldsMetAddRemembersFirstLineSpec)

/-- ITS FALSE NEIGHBOUR: 'it returns false'. Refute it at one input. -/
def fnFieldsMetAddRemembersFirstLineWrong : ChangeSpec := { name := "fnFieldsMetAddRemembersFirstLine", fn := fun _ => fun
  | [d] => { results := [.lit (.bool false)], args := [d] }
  | _ => none }
def FnFieldsMetAddRemembersFirstLineWrongFalsely : Prop := fnFieldsMetAddRemembersFirstLineRow.holds Try.pinned (OpenSpec.ofChange fnFieldsMetAddRemembersFirstLineWrong)

end Rows
end Go.Proofs.Qxb6602447a
