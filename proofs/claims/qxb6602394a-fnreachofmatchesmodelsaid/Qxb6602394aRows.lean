/-
  No cell of these rows narrows 'for every input' (looked for: loops, veiled, ifaces, maps, wideKeys, modest, calm, conditions, laid).
  DERIVED. THE GIVEN ROWS OF THIS SEAT. 4 by the template 'for every input the law returns true; each argument reads behind the call as it read before'; 0 by the template 'total and deterministic' (their statements: Qxb6602394aTotals.lean).
  GIVEN WITH THE SEED: the statements are not yours to turn. If you find one false, say at which input.
  Laid BY PROGRAM, IN A SANDBOX (cutbox-rows.mjs): the forced cells as the released guide's own fill.sh prints them over the translation 1c4299ca76895758… (all of the seat's roots in one cut). By AI agents, Wed Nov 11 2026. No macro, syntax, notation, axiom, sorry.
-/
import Derived.Test.Qxb6602394aChecked
import GoSem.Claim
import GoSem.ClaimJoined
import GoSem.ClaimMapViews
import Derived.JoinedTies
import Derived.KernelRfl
namespace Go.Proofs.Qxb6602394a
/- THE CELL 'sum', in the pinned program and in every row, IS THE sha256 OF THE DUMP (.gsa) THAT Qxb6602394aProg.lean LOADS. Nothing in Lean hashes anything: it is a label: what it is worth is what the hold of that sum in a sandbox is worth. -/
noncomputable def Try.pinned : Pinned := { name := "qxb6602394a", sum := "1c4299ca76895758d2ccd712815c7fcebd9645927ba3e6ea6a72fdb88ef0372c", checked := Try.checked }
namespace Rows
def none {H : Type} : Left H := { results := [], args := [] }

/-- 'zzlaws_document_b1.FnNewSelectionTreeMatchesModel': WHATEVER THE INPUT: true; the input reads as it did. -/
def fnNewSelectionTreeMatchesModelSpec : ChangeSpec := { name := "fnNewSelectionTreeMatchesModel", fn := fun _ => fun
  | [d1, d2, d3, d4, d5] => { results := [.lit (.bool true)], args := [d1, d2, d3, d4, d5] }
  | _ => none }
def fnNewSelectionTreeMatchesModelRow : OpenClaim := { program := "qxb6602394a", sum := "1c4299ca76895758d2ccd712815c7fcebd9645927ba3e6ea6a72fdb88ef0372c", func := "example.com/keenprice/keenprice/zzlaws_document_b1.FnNewSelectionTreeMatchesModel", spec := "fnNewSelectionTreeMatchesModel", apart := false }
def FnNewSelectionTreeMatchesModelSaid : Prop := fnNewSelectionTreeMatchesModelRow.holds Try.pinned (OpenSpec.ofChange fnNewSelectionTreeMatchesModelSpec)

/-- ITS FALSE NEIGHBOUR: 'it returns false'. Refute it at one input. -/
def fnNewSelectionTreeMatchesModelWrong : ChangeSpec := { name := "fnNewSelectionTreeMatchesModel", fn := fun _ => fun
  | [d1, d2, d3, d4, d5] => { results := [.lit (.bool false)], args := [d1, d2, d3, d4, d5] }
  | _ => none }
def FnNewSelectionTreeMatchesModelWrongFalsely : Prop := fnNewSelectionTreeMatchesModelRow.holds Try.pinned (OpenSpec.ofChange fnNewSelectionTreeMatchesModelWrong)

/-- 'zzlaws_document_b1.FnReachOfMatchesModel': WHATEVER THE INPUT: true; the input reads as it did. -/
def fnReachOfMatchesModelSpec : ChangeSpec := { name := "fnReachOfMatchesModel", fn := fun _ => fun
  | [d1, d2, d3, d4, d5, d6] => { results := [.lit (.bool true)], args := [d1, d2, d3, d4, d5, d6] }
  | _ => none }
def fnReachOfMatchesModelRow : OpenClaim := { program := "qxb6602394a", sum := "1c4299ca76895758d2ccd712815c7fcebd9645927ba3e6ea6a72fdb88ef0372c", func := "example.com/keenprice/keenprice/zzlaws_document_b1.FnReachOfMatchesModel", spec := "fnReachOfMatchesModel", recurses := true, apart := false }
def FnReachOfMatchesModelSaid : Prop := fnReachOfMatchesModelRow.holds Try.pinned (OpenSpec.ofChange fnReachOfMatchesModelSpec)

/-- ITS FALSE NEIGHBOUR: 'it returns false'. Refute it at one input. -/
def fnReachOfMatchesModelWrong : ChangeSpec := { name := "fnReachOfMatchesModel", fn := fun _ => fun
  | [d1, d2, d3, d4, d5, d6] => { results := [.lit (.bool false)], args := [d1, d2, d3, d4, d5, d6] }
  | _ => none }
def FnReachOfMatchesModelWrongFalsely : Prop := fnReachOfMatchesModelRow.holds Try.pinned (OpenSpec.ofChange fnReachOfMatchesModelWrong)

/-- 'zzlaws_document_b1.FnReachOfCacheKeepsAnswers': WHATEVER THE INPUT: true; the input reads as it did. -/
def fnReachOfCacheKeepsAnswersSpec : ChangeSpec := { name := "fnReachOfCacheKeepsAnswers", fn := fun _ => fun
  | [d1, d2, d3, d4, d5, d6, d7] => { results := [.lit (.bool true)], args := [d1, d2, d3, d4, d5, d6, d7] }
  | _ => none }
def fnReachOfCacheKeepsAnswersRow : OpenClaim := { program := "qxb6602394a", sum := "1c4299ca76895758d2ccd712815c7fcebd9645927ba3e6ea6a72fdb88ef0372c", func := "example.com/keenprice/keenprice/zzlaws_document_b1.FnReachOfCacheKeepsAnswers", spec := "fnReachOfCacheKeepsAnswers", apart := false }
def FnReachOfCacheKeepsAnswersSaid : Prop := fnReachOfCacheKeepsAnswersRow.holds Try.pinned (OpenSpec.ofChange fnReachOfCacheKeepsAnswersSpec)

/-- ITS FALSE NEIGHBOUR: 'it returns false'. Refute it at one input. -/
def fnReachOfCacheKeepsAnswersWrong : ChangeSpec := { name := "fnReachOfCacheKeepsAnswers", fn := fun _ => fun
  | [d1, d2, d3, d4, d5, d6, d7] => { results := [.lit (.bool false)], args := [d1, d2, d3, d4, d5, d6, d7] }
  | _ => none }
def FnReachOfCacheKeepsAnswersWrongFalsely : Prop := fnReachOfCacheKeepsAnswersRow.holds Try.pinned (OpenSpec.ofChange fnReachOfCacheKeepsAnswersWrong)

/-- 'zzlaws_document_b1.FnOrderMatchesModel': WHATEVER THE INPUT: true; the input reads as it did. -/
def fnOrderMatchesModelSpec : ChangeSpec := { name := "fnOrderMatchesModel", fn := fun _ => fun
  | [d1, d2, d3, d4, d5, d6] => { results := [.lit (.bool true)], args := [d1, d2, d3, d4, d5, d6] }
  | _ => none }
def fnOrderMatchesModelRow : OpenClaim := { program := "qxb6602394a", sum := "1c4299ca76895758d2ccd712815c7fcebd9645927ba3e6ea6a72fdb88ef0372c", func := "example.com/keenprice/keenprice/zzlaws_document_b1.FnOrderMatchesModel", spec := "fnOrderMatchesModel", inPlace := ["internal/bytealg.abigen_runtime_cmpstring"], unfollowed := true, recurses := true, apart := false }
def FnOrderMatchesModelSaid : Prop := fnOrderMatchesModelRow.holds Try.pinned (OpenSpec.ofChange fnOrderMatchesModelSpec)

/-- ITS FALSE NEIGHBOUR: 'it returns false'. Refute it at one input. -/
def fnOrderMatchesModelWrong : ChangeSpec := { name := "fnOrderMatchesModel", fn := fun _ => fun
  | [d1, d2, d3, d4, d5, d6] => { results := [.lit (.bool false)], args := [d1, d2, d3, d4, d5, d6] }
  | _ => none }
def FnOrderMatchesModelWrongFalsely : Prop := fnOrderMatchesModelRow.holds Try.pinned (OpenSpec.ofChange fnOrderMatchesModelWrong)

end Rows
end Go.Proofs.Qxb6602394a
