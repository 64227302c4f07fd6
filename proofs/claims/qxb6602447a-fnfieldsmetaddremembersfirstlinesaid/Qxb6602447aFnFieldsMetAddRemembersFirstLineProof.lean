/-
  THE PROOF OF 'Rows.FnFieldsMetAddRemembersFirstLineSaid': the frame after the kit's shells; the walk lies in Qxb6602447aLawWalk.
-/
import Derived.Test.Qxb6602447aRows
import Derived.Test.Qxb6602447aLawWalk
import Derived.WalkKit
import Derived.ProofKit
import Derived.OpenShut
import Derived.ChangeOld
import Derived.Below
import Derived.Deep.SlicePairs
namespace Go.Proofs.Qxb6602447a.fnFieldsMetAddRemembersFirstLine
open Go.ChangeShapes Go.WideShapes Go.ChangeAt Go.RowKit
open Go.Proofs.Qxb6602447a.T
set_option linter.unusedVariables false

theorem own : ownKnob Try.prog.godebug = none := by kernel_rfl
theorem laidOut : laidOutB Try.prog = true := by kernel_rfl

theorem pairs_of {H : Type} {enc : TypeId × Value → H} {W : World} {base : Nat} {sp : Nat → Bool} {held : Bool} {fuel : Nat} {a : Option Addr} {len cap : Nat} {x : DataW H × List MemPlace}
    (h : DataW.trod enc Try.prog W base sp held fuel 32 [.slice a len cap] = some x) : ∃ X Y : Nat → Int, PairsAt W a len X Y ∧ ∀ j, j < len → (Lit.int .i64 (X j)).wf = true := by
  rcases Deep.open_slice_pairs Try.underlying32 Try.underlying44 (by kernel_rfl) rfl rfl (by kernel_rfl) (by kernel_rfl) h with ⟨hcs, _⟩ | ⟨y, l, c, m, n, V0, V1, D0, D1, P0, P1, hcs, hb, hl, hm, hmm, hx, hcell⟩
  · simp at hcs
    obtain ⟨rfl, rfl, rfl⟩ := hcs
    exact ⟨fun _ => 0, fun _ => 0, fun j hj => by omega, fun j hj => by omega⟩
  · simp at hcs
    obtain ⟨rfl, rfl, rfl⟩ := hcs
    have hlm : len ≤ m := by rw [hmm]; split <;> omega
    have each : ∀ i, i < len → ∃ q : Int × Int, V0 i = .int .i64 q.1 ∧ V1 i = .int .i64 q.2 ∧ (Lit.int .i64 q.1).wf = true := by
      intro i hi
      obtain ⟨_, _, t0, t1⟩ := hcell i (by omega)
      obtain ⟨z0, e0, _, f0⟩ := DataW.trod_int Try.underlying3 t0
      obtain ⟨z1, e1, _, _⟩ := DataW.trod_int Try.underlying3 t1
      exact ⟨(z0, z1), by simpa using e0, by simpa using e1, f0⟩
    obtain ⟨q, hq⟩ := Deep.choose_lt each
    refine ⟨fun i => (q i).1, fun i => (q i).2, fun j hj => ?_, fun j hj => (hq j hj).2.2⟩
    obtain ⟨c0, c1, _, _⟩ := hcell j (by omega)
    obtain ⟨b, off, spot⟩ := y
    have hspot : spot = none := by simpa [Addr.add] using World.cell?_spot (hcell 0 (by omega)).1
    subst hspot
    refine ⟨b, off, rfl, ?_, ?_⟩
    · rw [← (hq j hj).1, ← c0, WideShapes.add_plain]
    · rw [← (hq j hj).2.1, ← c1, WideShapes.add_plain]; rfl

/-! ### THE ROW's STEP -/
set_option maxRecDepth 100000 in
theorem lifted (os : Os) (started : os.Started) (H : Type) (enc : TypeId × Value → H) :
    ReturnsInHanded {} Try.checked os 8 .any (Rows.fnFieldsMetAddRemembersFirstLineSpec.pre6 enc Try.prog Try.f8 Rows.fnFieldsMetAddRemembersFirstLineRow.domain false) (Rows.fnFieldsMetAddRemembersFirstLineSpec.post enc Try.prog Try.f8 false true false false) := by
  refine returnsInHanded_of_change (C := Try.checked) own started (by kernel_rfl) Try.func8
    (ChangeSpec.witness6 (enc := enc) (C := Try.checked) false ⟨#[], #[.slice none 0 0], []⟩ 8 (by kernel_rfl) (by kernel_rfl) (by kernel_rfl) (by kernel_rfl)) ?_
  intro W base args ds gs before hval0 hW hcnd _
  have hval : ∀ (j : Nat) t v, Try.f8.params[j]? = some t → args[j]? = some v → Value.okWide Try.prog W .any base t v := hval0
  have hW' := hW
  obtain ⟨p, q, hA0, hV, rfl, hfz, hnd⟩ := hW
  have hA : DataW.TrodAll enc Try.prog W 0 (fun _ => true) true Try.f8.params.toList args.toList ds p := hA0
  rw [Try.params8] at hA hval
  obtain ⟨v0, vs0, d0, ds0, p0, q0, hargs, rfl, rfl, h0, r0⟩ := trodAll_cons hA
  obtain ⟨rfl, rfl, rfl⟩ := trodAll_nil r0
  obtain rfl : args = #[v0] := by cases args; simp_all
  obtain ⟨rfl, rfl⟩ := trodVars_none hV
  obtain ⟨a0, len0, cap0, rfl⟩ := okWide_slice Try.underlying32 (hval 0 32 v0 rfl rfl)
  have k0 := h0
  have lt0 : ∀ x ∈ p0, x.block < W.heap.size := by obtain ⟨m, hm⟩ := k0; exact DataW.trod_lt m _ _ _ hm
  obtain ⟨X, Y, hP, hX⟩ : ∃ X Y : Nat → Int, PairsAt W a0 len0 X Y ∧ ∀ j, j < len0 → (Lit.int .i64 (X j)).wf = true := by
    obtain ⟨fuel, hf⟩ := h0
    exact pairs_of hf
  clear hA0 hval0
  refine (law_any X Y a0 len0 cap0 W hX hP).mono fun e W' ⟨he, bel⟩ => ?_
  subst he
  exact ⟨_, rfl, _, _, _, [], _, [], hW', trodAll_mk1 (shut_bool Try.underlying4 _), (trodAll_cons_mk (Below.trod laidOut (by kernel_rfl) (of_decide_eq_true (by kernel_rfl)) k0 bel lt0) trodAll_mk0), rfl, bel.frame _, fun h => by cases h⟩

theorem over : Rows.fnFieldsMetAddRemembersFirstLineRow.holds Try.pinned (OpenSpec.ofChange Rows.fnFieldsMetAddRemembersFirstLineSpec) :=
  OpenClaim.holds_of_wide 8 Try.f8 rfl rfl rfl rfl rfl rfl rfl ⟨rfl, rfl, rfl, rfl, rfl⟩ rfl rfl rfl rfl rfl (by kernel_rfl) Try.func8 (by kernel_rfl)
    (of_decide_eq_true (by kernel_rfl)) (by unfold Func.isWrapper; first | (rw [if_pos (by decide +kernel)]; kernel_rfl) | (rw [if_neg (by decide +kernel)]; exact ⟨rfl, rfl⟩))
    (fun os started H enc _ => lifted os started H enc)

/-- THE STATEMENT -/
theorem proved : Rows.FnFieldsMetAddRemembersFirstLineSaid := over
#print axioms proved
end Go.Proofs.Qxb6602447a.fnFieldsMetAddRemembersFirstLine
