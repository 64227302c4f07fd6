/-
  THE PROOF OF 'Rows.FnClosingQuoteOwnBytesSaid': the frame is the given shell's; the walk is filled.
-/
import Derived.Test.Qxb6602184aRows
import Derived.Test.Qxb6602184aWalks
import Derived.Test.Qxb6602184aClone
import Derived.WalkKit
import Derived.ProofKit
import Derived.OpenShut
import Derived.ShutString
import Derived.ChangeOld
import Derived.Below
namespace Go.Proofs.Qxb6602184a.fnClosingQuoteOwnBytes
open Go.ChangeShapes Go.WideShapes Go.ChangeAt Go.RowKit
open Go.ChangeMaps (open_string shut_string)
set_option linter.unusedVariables false

theorem own : ownKnob Try.prog.godebug = none := by kernel_rfl
theorem laidOut : laidOutB Try.prog = true := by kernel_rfl

/-- WHAT THE WALK IS TOLD OF A SLICE OF INTEGERS THAT CAME IN: it is nil; or it leads to a row of 'cap' cells, the numbers 'zs' (the first 'len' are its elements, the rest its spare room), each fitting its kind. -/
def IsRow (k : IntKind) (w : World) (a : Option Addr) (len cap : Nat) (zs : List Int) : Prop :=
  (a = none ∧ len = 0 ∧ cap = 0 ∧ zs = []) ∨
  ∃ x, a = some x ∧ len ≤ cap ∧ cap ≤ maxLen ∧ zs.length = cap ∧ (∀ i, i < zs.length → w.cell? (x.add i) = some (.int k (zs.getD i 0))) ∧ ∀ n ∈ zs, (Lit.int k n).wf = true

/-! ### STEP 1: THE WALK: the Go text returns true, AND WRITES NOTHING THAT WAS THERE: 'Below w.heap.size w w'' (Derived/Below.lean: '.refl', '.alloc', '.drew', '.setCell' at a new block, '.trans'). Open each 'IsRow' by 'rcases' AHEAD of 'go_enter'; part every test ahead of the walk. -/
theorem walk (a0 : Option Addr) (len0 cap0 : Nat) (z0 : List Int) (a1 : Int) (w : World) (w0 : IsRow .u8 w a0 len0 cap0 z0) (w1 : (Lit.int .i64 a1).wf = true) :
    Calls Try.prog 6 #[.slice a0 len0 cap0, .int .i64 a1] w fun e w' => e = .returned (.bool true) ∧ Below w.heap.size w w' := by
  rcases w0 with ⟨rfl, rfl, rfl, rfl⟩ | ⟨x, rfl, hl, hm, hz, hcell, hwf⟩
  · go_enter Try.func6, Try.ntmps6
    go_wp2_with fail
    refine (Cq.bytes_own none 0 0 a1 _ (by omega)).mono ?_
    rintro e w' ⟨rfl, hw⟩; have hw := hw.symm; subst hw
    go_wp2_with fail
    refine (Cq.clone_nil _).mono ?_
    rintro e w' ⟨rfl, hw⟩; have hw := hw.symm; subst hw
    go_wp2_with fail
    refine (Cq.indom_out none 0 0 a1 _ (by omega) (by omega)).mono ?_
    rintro e w' ⟨rfl, hw⟩; have hw := hw.symm; subst hw
    go_wp2
    go_ret
    exact ⟨rfl, Below.refl _ _⟩
  · unfold maxLen at hm
    by_cases hn : len0 ≤ 65536
    · have hc : ∀ j, j < len0 → w.cell? (x.add j) = some (.int .u8 (z0.getD j 0)) := fun j hj => hcell j (by omega)
      clear hcell
      obtain ⟨f, hf⟩ : ∃ f : Nat → Int, f = fun j => z0.getD j 0 := ⟨_, rfl⟩
      have hc : ∀ j, j < len0 → w.cell? (x.add j) = some (.int .u8 (f j)) := fun j hj => by rw [hf]; exact hc j hj
      clear hf
      go_enter Try.func6, Try.ntmps6
      go_wp2_with fail
      refine (Cq.bytes_own (some x) len0 cap0 a1 _ hn).mono ?_
      rintro e w' ⟨rfl, hw⟩; have hw := hw.symm; subst hw
      go_wp2_with fail
      refine (Cq.clone_some f x len0 cap0 _ hn hc).mono ?_
      rintro e wc ⟨rfl, hc', hb⟩
      clear hc
      by_cases ho : a1 < 0 ∨ (len0 : Int) ≤ a1
      · go_wp2_with fail
        refine (Cq.indom_out _ len0 len0 a1 _ hn ho).mono ?_
        rintro e w' ⟨rfl, hw⟩; have hw := hw.symm; subst hw
        go_wp2
        go_ret
        exact ⟨rfl, hb⟩
      · obtain ⟨i, rfl⟩ := Int.eq_ofNat_of_zero_le (show 0 ≤ a1 by omega)
        have hi : i < len0 := by omega
        clear ho
        by_cases h34i : f i = 34
        · go_wp2_with fail
          refine (Cq.indom_yes f _ 0 len0 len0 i _ hn hi h34i hc').mono ?_
          rintro e w' ⟨rfl, hw⟩; have hw := hw.symm; subst hw
          obtain ⟨R, hR⟩ : ∃ R, R = Cq.seek f i (len0 - (i + 1)) (i + 1) := ⟨_, rfl⟩
          rw [← hR]
          obtain ⟨m, ok⟩ := R
          cases ok with
          | false =>
            clear hR
            go_wp2
            go_ret
            exact ⟨rfl, hb⟩
          | true =>
            obtain ⟨g1, g2, g3, g4⟩ := Cq.seek_yes _ _ _ hR.symm
            clear hR
            have hmn : m < len0 := by omega
            have him : i < m := by omega
            have hcm : wc.cell? ⟨w.heap.size, m, none⟩ = some (.int .u8 (f m)) := by simpa using hc' m hmn
            have hs := Cq.seek_own (f := f) (by omega) g3 g4
            obtain ⟨s1, s2, s3, s4⟩ := Cq.seek_yes _ _ _ hs
            have C := fun (h34 : f i = 34) (hc2 : ∀ j, j < m + 1 - i → wc.cell? ⟨w.heap.size, i + j, none⟩ = some (.int .u8 (f (i + j)))) => Cq.indom_yes (fun j => f (i + j)) w.heap.size i (m + 1 - i) (len0 - i) 0 wc (by omega) (by omega) h34 hc2
            have D := fun (hc2 : ∀ j, j < m + 1 - i → wc.cell? ⟨w.heap.size, i + j, none⟩ = some (.int .u8 (f (i + j)))) => Cq.zzquote_any (fun j => f (i + j)) w.heap.size i (m + 1 - i) (len0 - i) 0 (m - i) wc (by omega) (by omega) (by omega) s3 s4 hc2
            rw [hs] at C
            have C' := C h34i (fun j hj => by have := hc' (i + j) (by omega); rwa [Nat.zero_add] at this)
            have D' := D (fun j hj => by have := hc' (i + j) (by omega); rwa [Nat.zero_add] at this)
            clear C D hs s1 s2 s3 s4
            rw [show ((0 : Nat) : Int) = 0 from rfl] at C' D'
            have CH : Hid _ := C'
            have DH : Hid _ := D'
            clear C' D'
            have h34 : f m = 34 := by simp [Cq.hitB] at g3; exact g3.1
            have hq : (f m != 34) = false := by simp [h34]
            clear h34
            go_wp2_with fail
            refine (Cq.zzquote_any f _ 0 len0 len0 i m _ hn g1 (by omega) g3 g4 hc').mono ?_
            rintro e w' ⟨rfl, hw⟩; have hw := hw.symm; subst hw
            go_wp2_with fail
            clear h34i
            refine Calls.mono CH.out ?_
            rintro e w' ⟨rfl, hw⟩; have hw := hw.symm; subst hw
            go_wp2_with fail
            refine Calls.mono DH.out ?_
            rintro e w' ⟨rfl, hw⟩; have hw := hw.symm; subst hw
            go_wp2
            go_ret
            exact ⟨by simp; omega, hb⟩
        · go_wp2_with fail
          refine (Cq.indom_ne f _ 0 len0 len0 i _ hn hi h34i hc').mono ?_
          rintro e w' ⟨rfl, hw⟩; have hw := hw.symm; subst hw
          go_wp2
          go_ret
          exact ⟨rfl, hb⟩
    · clear hcell
      by_cases hn2 : len0 ≤ 1048576
      · go_enter Try.func6, Try.ntmps6
        go_wp2
        go_ret
        exact ⟨rfl, Below.refl _ _⟩
      · go_enter Try.func6, Try.ntmps6
        go_wp2
        go_ret
        exact ⟨rfl, Below.refl _ _⟩

end Go.Proofs.Qxb6602184a.fnClosingQuoteOwnBytes
