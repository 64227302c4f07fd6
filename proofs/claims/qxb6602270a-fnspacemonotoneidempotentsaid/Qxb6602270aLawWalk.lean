/-
  THE WALK OF FnSpaceMonotoneIdempotent.
-/
import Derived.Test.Qxb6602270aRows
import Derived.Test.Qxb6602270aWalks
import Derived.WalkKit
import Derived.ProofKit
import Derived.OpenShut
import Derived.ShutString
import Derived.ChangeOld
import Derived.Below
namespace Go.Proofs.Qxb6602270a.fnSpaceMonotoneIdempotent
open Go.ChangeShapes Go.WideShapes Go.ChangeAt Go.RowKit
open Go.ChangeMaps (open_string shut_string)
set_option linter.unusedVariables false

theorem own : ownKnob Try.prog.godebug = none := by kernel_rfl
theorem laidOut : laidOutB Try.prog = true := by kernel_rfl

/-- WHAT THE WALK IS TOLD OF A SLICE OF INTEGERS THAT CAME IN: it is nil; or it leads to a row of 'cap' cells, the numbers 'zs' (the first 'len' are its elements, the rest its spare room), each fitting its kind. -/
def IsRow (k : IntKind) (w : World) (a : Option Addr) (len cap : Nat) (zs : List Int) : Prop :=
  (a = none ∧ len = 0 ∧ cap = 0 ∧ zs = []) ∨
  ∃ x, a = some x ∧ len ≤ cap ∧ cap ≤ maxLen ∧ zs.length = cap ∧ (∀ i, i < zs.length → w.cell? (x.add i) = some (.int k (zs.getD i 0))) ∧ ∀ n ∈ zs, (Lit.int k n).wf = true

/-! ### STEP 1: THE WALK: the Go text returns true, AND WRITES NOTHING THAT WAS THERE: 'Below w.heap.size w w'' (Derived/Below.lean: '.refl', '.alloc', '.drew', '.setCell' at a new block, '.trans'). Open each 'IsRow' by 'rcases' AHEAD of 'go_enter'; part every test ahead of the walk. -/
set_option maxHeartbeats 1600000 in
theorem walk (a0 : Option Addr) (len0 cap0 : Nat) (z0 : List Int) (a1 : Int) (a2 : Int) (w : World) (w0 : IsRow .u8 w a0 len0 cap0 z0) (w1 : (Lit.int .i64 a1).wf = true) (w2 : (Lit.int .i64 a2).wf = true) :
    Calls Try.prog 4 #[.slice a0 len0 cap0, .int .i64 a1, .int .i64 a2] w fun e w' => e = .returned (.bool true) ∧ Below w.heap.size w w' := by
  obtain ⟨f, C⟩ : ∃ f : Nat → Int, len0 ≤ 1048576 → Calls Try.prog 7 #[.slice a0 len0 cap0] w fun e w' => ∃ a' c', e = .returned (.slice a' len0 c') ∧ Sp.Lies w' a' len0 f ∧ Below w.heap.size w w' := by
    rcases w0 with ⟨rfl, rfl, rfl, rfl⟩ | ⟨x, rfl, hl, hm, hz, hcell, hwf⟩
    · refine ⟨fun _ => 0, fun _ => (Sp.clone_nil w).mono ?_⟩
      rintro e w' ⟨rfl, rfl⟩
      exact ⟨none, 0, rfl, .inl rfl, Below.refl _ _⟩
    · refine ⟨fun j => z0.getD j 0, fun hn => ?_⟩
      by_cases hp : 0 < len0
      · obtain ⟨b, off, spot⟩ := x
        have hspot : spot = none := by simpa [Addr.add] using World.cell?_spot (hcell 0 (by omega))
        subst hspot
        refine (Sp.clone_some (fun j => z0.getD j 0) b off len0 cap0 w hn (fun j hj => by have := hcell j (by omega); rwa [add_plain] at this)).mono ?_
        rintro e w' ⟨rfl, hl, hb⟩
        exact ⟨_, _, rfl, hl, hb⟩
      · obtain rfl : len0 = 0 := by omega
        refine (Sp.clone_empty x cap0 w).mono ?_
        rintro e w' ⟨rfl, hb⟩
        exact ⟨_, _, rfl, .inl rfl, hb⟩
  have hm : len0 ≤ 9223372036854775807 := by
    rcases w0 with ⟨rfl, rfl, rfl, rfl⟩ | ⟨x, rfl, hl, hm, hz, hcell, hwf⟩
    · omega
    · unfold maxLen at hm; omega
  clear w0
  by_cases hn : len0 ≤ 1048576
  · by_cases h1 : a1 < 0
    · go_enter Try.func4, Try.ntmps4
      go_wp2_with fail
      refine (Sp.bytes_any a0 len0 cap0 a1 a2 _ hn).mono ?_
      rintro e w' ⟨rfl, rfl⟩
      go_wp2
      go_ret
      exact ⟨rfl, Below.refl _ _⟩
    by_cases h2 : a2 < 0
    · go_enter Try.func4, Try.ntmps4
      go_wp2_with fail
      refine (Sp.bytes_any a0 len0 cap0 a1 a2 _ hn).mono ?_
      rintro e w' ⟨rfl, rfl⟩
      go_wp2
      go_ret
      exact ⟨rfl, Below.refl _ _⟩
    obtain ⟨i, rfl⟩ := Int.eq_ofNat_of_zero_le (show 0 ≤ a1 by omega)
    obtain ⟨j, rfl⟩ := Int.eq_ofNat_of_zero_le (show 0 ≤ a2 by omega)
    have C' := C hn
    have HC : Hid (Calls Try.prog 7 #[.slice a0 len0 cap0] w fun e w' => ∃ a' c', e = .returned (.slice a' len0 c') ∧ Sp.Lies w' a' len0 f ∧ Below w.heap.size w w') := C'
    clear C C' h1 h2
    obtain ⟨lo, hi, hlh, hor⟩ : ∃ lo hi : Nat, lo ≤ hi ∧ ((lo = i ∧ hi = j ∧ i ≤ j) ∨ (lo = j ∧ hi = i ∧ j < i)) := by
      by_cases h : i ≤ j
      · exact ⟨i, j, h, .inl ⟨rfl, rfl, h⟩⟩
      · exact ⟨j, i, by omega, .inr ⟨rfl, rfl, by omega⟩⟩
    have q1 := Sp.sp_spec f len0 lo
    have q2 := Sp.sp_mono (f := f) (n := len0) hlh
    have q3 : lo ≤ len0 → Sp.sp f len0 lo ≤ len0 := fun h => Sp.sp_end h
    have q4 : len0 ≤ lo → Sp.sp f len0 lo ≤ lo := fun h => Nat.le_of_eq (Sp.sp_past h)
    have q5 : hi ≤ Sp.sp f len0 lo → Sp.sp f len0 hi ≤ Sp.sp f len0 lo := fun h => Nat.le_of_eq (Sp.sp_join hlh h)
    have C1 : ∀ (c p r : Nat) (a : Option Addr) (w : World), r = Sp.sp f len0 p → Sp.Lies w a len0 f → Calls Try.prog 8 #[.slice a len0 c, .int .i64 p] w fun e w' => e = .returned (.int .i64 r) ∧ Below w.heap.size w w' := by
      intro c p r a w hr hl
      rw [hr]; exact Sp.zz_any f a len0 c p w hn hl
    have HC1 : Hid (∀ (c p r : Nat) (a : Option Addr) (w : World), r = Sp.sp f len0 p → Sp.Lies w a len0 f → Calls Try.prog 8 #[.slice a len0 c, .int .i64 p] w fun e w' => e = .returned (.int .i64 r) ∧ Below w.heap.size w w') := C1
    clear C1
    have q6 := Sp.sp_again f len0 lo
    have q7 := Sp.sp_again f len0 hi
    have q8 := q1.1
    clear q1
    generalize g1 : Sp.sp f len0 lo = r1 at *
    generalize g2 : Sp.sp f len0 hi = r2 at *
    have G1 : Hid (Sp.sp f len0 lo = r1) := g1
    have G2 : Hid (Sp.sp f len0 hi = r2) := g2
    have G3 : Hid (Sp.sp f len0 r1 = r1) := q6
    have G4 : Hid (Sp.sp f len0 r2 = r2) := q7
    clear g1 g2 q6 q7
    obtain ⟨k1, k2⟩ : (lo ≤ len0 ∧ r1 ≤ len0 ∨ len0 < lo ∧ r1 ≤ lo) ∧ (hi ≤ r1 ∧ r2 ≤ r1 ∨ r1 < hi) := by
      constructor
      · by_cases h : lo ≤ len0
        · exact .inl ⟨h, q3 h⟩
        · exact .inr ⟨by omega, q4 (by omega)⟩
      · by_cases h : hi ≤ r1
        · exact .inl ⟨h, q5 h⟩
        · exact .inr (by omega)
    clear q3 q4 q5
    rcases hor with ⟨rfl, rfl, hij⟩ | ⟨rfl, rfl, hij⟩ <;> rcases k1 with ⟨k1, k1'⟩ | ⟨k1, k1'⟩ <;> rcases k2 with ⟨k2, k2'⟩ | k2
    all_goals try (exfalso; omega)
    all_goals
      go_enter Try.func4, Try.ntmps4
      go_wp2_with fail
      refine (Sp.bytes_any a0 len0 cap0 _ _ _ hn).mono ?_
      rintro e w' ⟨rfl, rfl⟩
      go_wp2_with fail
      refine (HC.out : Calls Try.prog 7 #[.slice a0 len0 cap0] w fun e w' => ∃ a' c', e = .returned (.slice a' len0 c') ∧ Sp.Lies w' a' len0 f ∧ Below w.heap.size w w').mono ?_
      rintro e wc ⟨a', c', rfl, hl, hb⟩
      go_wp2_with fail
      refine (HC1.out c' lo r1 a' wc G1.out.symm hl).mono ?_
      rintro e wa ⟨rfl, hba⟩
      have hla := hl.below hba
      go_wp2_with fail
      refine (HC1.out c' hi r2 a' wa G2.out.symm hla).mono ?_
      rintro e wb ⟨rfl, hbb⟩
      have hlb := hla.below hbb
      go_wp2_with fail
      refine (HC1.out c' r1 r1 a' wb G3.out.symm hlb).mono ?_
      rintro e wd ⟨rfl, hbd⟩
      have hld := hlb.below hbd
      go_wp2_with fail
      refine (HC1.out c' r2 r2 a' wd G4.out.symm hld).mono ?_
      rintro e we ⟨rfl, hbe⟩
      have hfin : Below w.heap.size w we := (((hb.trans (hba.mono hb.size)).trans (hbb.mono (Nat.le_trans hb.size hba.size))).trans (hbd.mono (Nat.le_trans hb.size (Nat.le_trans hba.size hbb.size)))).trans (hbe.mono (Nat.le_trans hb.size (Nat.le_trans hba.size (Nat.le_trans hbb.size hbd.size))))
      go_wp2
      go_ret
      exact ⟨by simp, hfin⟩
  · clear C
    go_enter Try.func4, Try.ntmps4
    go_wp2
    go_ret
    exact ⟨rfl, Below.refl _ _⟩

end Go.Proofs.Qxb6602270a.fnSpaceMonotoneIdempotent
