/-
  THE WALKS: each Go function on the road of the law over space computes a plain function (Qxb6602270aPlain).
-/
import Derived.Test.Qxb6602270aRows
import Derived.Test.Qxb6602270aPlain
import Derived.WalkKit
import Derived.ProofKit
import Derived.WalkLawsBesides
import Derived.Deep.LoopGhost
import Derived.Deep.OwnRows
import Derived.Deep.QuietTactic
import Derived.BigQuiet
import Derived.Lib.SliceRun
import Derived.Below
import Derived.Outline
namespace Go.Proofs.Qxb6602270a.Sp
open Go.RowKit
set_option linter.unusedVariables false

/-- Past the end: nothing happens. -/
theorem space_past (a : Option Addr) (n c g : Nat) (p : Int) (w : World) (hp : (n : Int) ≤ p)
    (h0 : w.cell? ⟨g, 0, none⟩ = some (.slice a n c)) (h1 : w.cell? ⟨g, 1, none⟩ = some (.int .i64 p)) :
    Calls Try.prog 14 #[.pointer (some ⟨g, 0, none⟩)] w fun e w' => e = .returned (.tuple #[]) ∧ w'.cell? ⟨g, 1, none⟩ = some (.int .i64 p) ∧ Below g w w' := by
  go_enter Try.func14, Try.ntmps14
  go_wp2
  refine wp_loop_rounds 1 ?_
  rw [rounds_succ]
  go_wp2
  go_quiet (fail)
  go_wp2
  go_end0
  exact ⟨rfl, by simpa using h1, below_drewN (Below.refl _ _) _⟩

set_option maxHeartbeats 400000 in
/-- From a place inside the text. -/
theorem space_in (f : Nat → Int) (b off n c g p0 : Nat) (w : World) (hn : n ≤ 1048576) (hp : p0 ≤ n) (hbg : b < g)
    (h0 : w.cell? ⟨g, 0, none⟩ = some (.slice (some ⟨b, off, none⟩) n c)) (h1 : w.cell? ⟨g, 1, none⟩ = some (.int .i64 p0)) (hz : w.frozen? ⟨g, 1, none⟩ = false)
    (hc : ∀ j, j < n → w.cell? ⟨b, off + j, none⟩ = some (.int .u8 (f j))) :
    Calls Try.prog 14 #[.pointer (some ⟨g, 0, none⟩)] w fun e w' => e = .returned (.tuple #[]) ∧ w'.cell? ⟨g, 1, none⟩ = some (.int .i64 (sp f n p0)) ∧ Below g w w' := by
  obtain ⟨R, hR⟩ : ∃ R, R = sp f n p0 := ⟨_, rfl⟩
  rw [← hR]
  have HR : Hid (R = skip f (n - p0) p0) := hR
  clear hR
  go_enter Try.func14, Try.ntmps14
  go_wp2
  go_loopg [22] (n - p0) (fun k _ wr => ∃ p : Nat, k = n - p ∧ p ≤ n ∧ Hid (R = skip f (n - p) p) ∧ wr.cell? ⟨g, 0, none⟩ = some (.slice (some ⟨b, off, none⟩) n c) ∧ wr.cell? ⟨g, 1, none⟩ = some (.int .i64 p) ∧ wr.frozen? ⟨g, 1, none⟩ = false ∧ Below g w wr)
  case atStart => exact ⟨p0, rfl, hp, HR, h0, h1, hz, Below.refl _ _⟩
  case round =>
    obtain ⟨p, hk, hpn, HP, r0, r1, rz, hb⟩ := hrel
    have HK : Hid (gk = n - p) := hk
    clear hk h0 h1 hz HR
    by_cases hlt : p < n
    · have hcp : wr.cell? ⟨b, off + p, none⟩ = some (.int .u8 (f p)) := (hb.cell (p := ⟨b, off + p, none⟩) hbg).trans (hc p hlt)
      clear hc
      have hli : (p : Int) < (n : Int) := by omega
      by_cases hbl : blankB (f p) = true
      · have HM : Hid (R = skip f (n - (p + 1)) (p + 1)) := HP.out.trans (skip_blank hlt hbl)
        go_wp2
        go_quiet (fail)
        go_wp2
        go_quiet (fail)
        have hcase := blank_cases hbl
        clear hbl
        rcases hcase with e1 | ⟨e1, e2⟩ | ⟨e1, e2, e3⟩ | ⟨e1, e2, e3, e4⟩
        all_goals
          go_wp2
          go_roundg (n - (p + 1))
          case measure => rw [HK.out]; omega
          case rel => exact ⟨p + 1, rfl, by omega, HM, (World.cell?_setCell_other _ _ _ _ (by intro h; cases h)).trans r0, World.cell?_setCell_same _ _ _ (u := .int .i64 p) r1, by simpa using rz, (below_drewN hb _).setCell (Nat.le_refl _) _⟩
      · have hbl : blankB (f p) = false := by simpa using hbl
        have HM : Hid (R = p) := HP.out.trans (skip_stop hlt hbl)
        simp only [blankB, Bool.or_eq_false_iff] at hbl
        obtain ⟨⟨⟨e1, e2⟩, e3⟩, e4⟩ := hbl
        go_wp2
        go_quiet (fail)
        go_wp2
        go_quiet (fail)
        go_wp2
        refine bodyPost_ret (results_none rfl _ _ _) rfl ?_
        exact ⟨rfl, by rw [HM.out]; simpa using r1, below_drewN hb _⟩
    · have e : p = n := by omega
      have HM : Hid (R = p) := by rw [e]; have := HP.out; rw [e, Nat.sub_self] at this; exact this
      clear e
      have hd : decide ((p : Int) < (n : Int)) = false := decide_eq_false (by omega)
      go_wp2
      go_quiet (fail)
      go_wp2
      go_end0
      exact ⟨rfl, by rw [HM.out]; simpa using r1, below_drewN hb _⟩

/-- Where the text lies: nowhere if it is empty. -/
def Lies (w : World) (a : Option Addr) (n : Nat) (f : Nat → Int) : Prop :=
  n = 0 ∨ ∃ b off, a = some ⟨b, off, none⟩ ∧ b < w.heap.size ∧ ∀ j, j < n → w.cell? ⟨b, off + j, none⟩ = some (.int .u8 (f j))

theorem Lies.below {w w' : World} {a : Option Addr} {n : Nat} {f : Nat → Int} (h : Lies w a n f) (hb : Below w.heap.size w w') : Lies w' a n f := by
  rcases h with h | ⟨b, off, rfl, hlt, hc⟩
  · exact .inl h
  · exact .inr ⟨b, off, rfl, Nat.lt_of_lt_of_le hlt hb.size, fun j hj => (hb.cell (p := ⟨b, off + j, none⟩) hlt).trans (hc j hj)⟩

theorem zz_any (f : Nat → Int) (a : Option Addr) (n c p : Nat) (w : World) (hn : n ≤ 1048576) (hl : Lies w a n f) :
    Calls Try.prog 8 #[.slice a n c, .int .i64 p] w fun e w' => e = .returned (.int .i64 (sp f n p)) ∧ Below w.heap.size w w' := by
  by_cases hp : n ≤ p
  · rw [sp_past hp]
    clear hl
    go_enter Try.func8, Try.ntmps8
    go_wp2_with fail
    refine (space_past a n c w.heap.size p _ (by omega) (by simp) (by simp)).mono ?_
    rintro e w1 ⟨rfl, h1, hb⟩
    go_wp2
    go_ret
    exact ⟨rfl, ((Below.refl _ _).alloc (Nat.le_refl _) _).trans hb⟩
  · rcases hl with hl | ⟨b, off, rfl, hlt, hc⟩
    · omega
    · obtain ⟨R, hR⟩ : ∃ R, R = sp f n p := ⟨_, rfl⟩
      rw [← hR]
      have HR : Hid (R = sp f n p) := hR
      clear hR
      go_enter Try.func8, Try.ntmps8
      go_wp2_with fail
      refine (space_in f b off n c w.heap.size p _ hn (by omega) hlt (by simp) (by simp) (by simp) (fun j hj => ?hcc)).mono ?_
      case hcc => exact (World.cell?_of_block (w := w) (Below.heap_alloc w _ b hlt)).trans (hc j hj)
      rw [← HR.out]
      rintro e w1 ⟨rfl, h1, hb⟩
      go_wp2
      go_ret
      exact ⟨rfl, ((Below.refl _ _).alloc (Nat.le_refl _) _).trans hb⟩

theorem bytes_any (a : Option Addr) (n c : Nat) (i j : Int) (w : World) (hn : n ≤ 1048576) :
    Calls Try.prog 10 #[.slice a n c, .int .i64 i, .int .i64 j] w fun e w' => e = .returned (.bool true) ∧ w = w' := by
  go_enter Try.func10, Try.ntmps10
  go_wp2
  go_ret
  exact ⟨rfl, rfl⟩

/-! ### zzCloneBytes -/
theorem info5 : (Try.prog.info? 5).map (fun i => (i.zero, i.size, i.bytes)) = some (some (.int .u8 0), 1, 1) := by kernel_rfl

theorem clone_nil (w : World) :
    Calls Try.prog 7 #[.slice none 0 0] w fun e w' => e = .returned (.slice none 0 0) ∧ w = w' := by
  have q : ∀ (w : World) (a : Option Addr) (n c : Nat), (binOp .eql 22 (.slice a n c) (.slice none 0 0)).run Try.prog w = .ok (.bool a.isNone) w := fun w a n c => Lib.run_eql_slice_nil w 22 5 a n c 0 0 Try.underlying22
  go_enter Try.func7, Try.ntmps7
  go_wp2
  go_ret
  exact ⟨rfl, rfl⟩

theorem clone_empty (x : Addr) (c : Nat) (w : World) :
    Calls Try.prog 7 #[.slice (some x) 0 c] w fun e w' => e = .returned (.slice (some ⟨w.heap.size, 0, none⟩) 0 0) ∧ Below w.heap.size w w' := by
  have q : ∀ (w : World) (a : Option Addr) (n c : Nat), (binOp .eql 22 (.slice a n c) (.slice none 0 0)).run Try.prog w = .ok (.bool a.isNone) w := fun w a n c => Lib.run_eql_slice_nil w 22 5 a n c 0 0 Try.underlying22
  have hmk : ∀ w : World, (Instr.makeSlice 22 (.int .i64 0) (.int .i64 0)).run Try.prog w = .ok (.slice (some ⟨w.heap.size, 0, none⟩) 0 0) (w.alloc (.cells (madeCells #[.int .u8 0] 0) 5)) := run_make_row' (P := Try.prog) 22 5 (.int .u8 0) 1 Try.underlying22 info5 rfl .i64 .i64 0 (by omega) (by omega)
  go_enter Try.func7, Try.ntmps7
  go_wp2
  refine wp_loop_rounds 1 ?_
  rw [rounds_succ]
  go_wp2
  go_ret
  exact ⟨rfl, (Below.refl _ _).alloc (Nat.le_refl _) _⟩

set_option maxHeartbeats 400000 in
theorem clone_some (f : Nat → Int) (b off n c : Nat) (w : World) (hn : n ≤ 1048576) (hc : ∀ j, j < n → w.cell? ⟨b, off + j, none⟩ = some (.int .u8 (f j))) :
    Calls Try.prog 7 #[.slice (some ⟨b, off, none⟩) n c] w fun e w' => e = .returned (.slice (some ⟨w.heap.size, 0, none⟩) n n) ∧ Lies w' (some ⟨w.heap.size, 0, none⟩) n f ∧ Below w.heap.size w w' := by
  have q : ∀ (w : World) (a : Option Addr) (n c : Nat), (binOp .eql 22 (.slice a n c) (.slice none 0 0)).run Try.prog w = .ok (.bool a.isNone) w := fun w a n c => Lib.run_eql_slice_nil w 22 5 a n c 0 0 Try.underlying22
  have hmk := run_make_row' (P := Try.prog) 22 5 (.int .u8 0) 1 Try.underlying22 info5 rfl .i64 .i64 n (by omega) (by omega)
  have hblk : ∀ j, j < n → b < w.heap.size := fun j hj => by
    have h := hc j hj
    unfold World.cell? at h
    split at h
    · rename_i hb; exact (Array.getElem?_eq_some_iff.1 hb).1
    · cases h
  go_enter Try.func7, Try.ntmps7
  go_wp2
  clear hmk q
  go_loopg [4] n (fun k i wr => ∃ p : Nat, k = n - p ∧ p ≤ n ∧ i = .int .i64 p ∧ wr.rowIs w.heap.size 5 n (fun j => if j < p then .int .u8 (f j) else .int .u8 0) ∧ Below w.heap.size w wr)
  case atStart => exact ⟨0, rfl, Nat.zero_le _, rfl, (World.rowIs_made w _ n 5).congr (fun j _ => by simp), (Below.refl _ _).alloc (Nat.le_refl _) _⟩
  case round =>
    obtain ⟨p, hk, hpn, rfl, hrow, hb⟩ := hrel
    have HK : Hid (gk = n - p) := hk
    clear hk
    by_cases hlt : p < n
    · have hcp : wr.cell? ⟨b, off + p, none⟩ = some (.int .u8 (f p)) := (hb.cell (p := ⟨b, off + p, none⟩) (hblk p hlt)).trans (hc p hlt)
      have hcr := hrow.cell hlt
      have hfr := hrow.frozen p
      simp only [Nat.lt_irrefl, if_false] at hcr
      have HROW : Hid (wr.rowIs w.heap.size 5 n (fun j => if j < p then .int .u8 (f j) else .int .u8 0)) := hrow
      clear hc hblk hrow
      go_wp2
      go_roundg (n - (p + 1))
      case measure => rw [HK.out]; omega
      case rel =>
        refine ⟨p + 1, rfl, by omega, by go_num, (World.rowIs.set HROW.out p _).congr (fun j _ => ?_), hb.setCell (Nat.le_refl _) _⟩
        by_cases e : j = p
        · subst e; rw [if_pos rfl, if_pos (by omega)]
        · rw [if_neg e]
          by_cases e2 : j < p
          · rw [if_pos e2, if_pos (by omega)]
          · rw [if_neg e2, if_neg (by omega)]
    · have hlies : Lies wr (some ⟨w.heap.size, 0, none⟩) n f := .inr ⟨_, 0, rfl, hrow.lt, fun j hj => by rw [Nat.zero_add, hrow.cell hj, if_pos (by omega)]⟩
      have HL : Hid _ := hlies
      clear hlies hrow hc hblk
      go_wp2
      go_ret
      exact ⟨rfl, HL.out, hb⟩

end Go.Proofs.Qxb6602270a.Sp
