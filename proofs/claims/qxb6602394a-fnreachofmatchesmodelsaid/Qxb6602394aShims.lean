/-
  reachOf where the group is cached; ZZB1ReachOf and ZZB1ReachOfAfter.
-/
import Derived.Test.Qxb6602394aWalkA
import Derived.Test.Qxb6602394aParts
namespace Go.Proofs.Qxb6602394a.T
open Go.RowKit
set_option linter.unusedVariables false

set_option maxRecDepth 100000 in
set_option maxHeartbeats 800000 in
theorem reach_hit (w : World) (C RM : Nat) (TP : Value) (c : Int) (hcl : -9223372036854775808 ≤ c) (hch : c ≤ 9223372036854775807) (c1 : w.cell? ⟨C, 1, none⟩ = some (.map (some RM)))
    (G : Int → Option Value) (cnt : Nat) (hM : MapIs Try.prog w 3 RM cnt (byI64 G)) (ua : Option Addr) (un uc : Nat) (h : Int) (xa : Option Addr) (xn xc : Nat) (hG : G c = some (.agg #[.slice ua un uc, .int .i64 h, .slice xa xn xc])) :
    Calls Try.prog 36 #[.pointer (some ⟨C, 0, none⟩), .int .i64 c] w fun e w' => e = .returned (.agg #[.slice ua un uc, .int .i64 h, .slice xa xn xc]) ∧ Below w.heap.size w w' := by
  have hwf := wf_i64 hcl hch
  go_enter Try.func36, Try.ntmps36
  go_upto_region 1 with fail
  obtain ⟨w1, hw1⟩ : ∃ w1, w1 = w.alloc (.cells #[nilS, .int .i64 0, nilS] 74) := ⟨_, rfl⟩
  have hb1 : Below w.heap.size w w1 := by rw [hw1]; exact (Below.refl _ _).alloc (Nat.le_refl _) _
  have s1 : w1.heap.size = w.heap.size + 1 := by rw [hw1]; simp
  have r1 : w1.rowIs w.heap.size 74 3 (rCells nilS (.int .i64 0) nilS) := by
    rw [hw1]
    exact World.rowIs_alloc w #[nilS, .int .i64 0, nilS] 74 (rCells nilS (.int .i64 0) nilS) (fun i hi => by
      have : i < 3 := by simpa using hi
      match i, this with
      | 0, _ => rfl
      | 1, _ => rfl
      | 2, _ => rfl)
  have q1 := (hb1.cell (lt_of_cell c1)).trans c1
  have look := (hM.kept (hb1.block _ hM.lt)).lookI_ok Try.underlying3 Try.underlying69 (zero74 w1) hwf
  rw [hG] at look
  simp only [Option.getD_some, Option.isSome_some] at look
  rw [← hw1]
  clear hw1 hG hM c1 hcl hch
  obtain ⟨B0, hB0⟩ : ∃ B0, B0 = w.heap.size := ⟨_, rfl⟩
  rw [← hB0] at r1
  have S1 := hide s1
  have HB0 := hide hB0
  clear s1
  go_upto_region 3 with fail
  obtain ⟨w2, hw2⟩ : ∃ w2, w2 = w1.alloc (.cells #[.slice ua un uc, .int .i64 h, .slice xa xn xc] 74) := ⟨_, rfl⟩
  have hb2 : Below w1.heap.size w1 w2 := by rw [hw2]; exact (Below.refl _ _).alloc (Nat.le_refl _) _
  have r2 : w2.rowIs w1.heap.size 74 3 (rCells (.slice ua un uc) (.int .i64 h) (.slice xa xn xc)) := by
    rw [hw2]
    exact World.rowIs_alloc w1 #[.slice ua un uc, .int .i64 h, .slice xa xn xc] 74 (rCells (.slice ua un uc) (.int .i64 h) (.slice xa xn xc)) (fun i hi => by
      have : i < 3 := by simpa using hi
      match i, this with
      | 0, _ => rfl
      | 1, _ => rfl
      | 2, _ => rfl)
  have rB := r1.of_block (hb2.block _ r1.lt)
  have hbw : Below w.heap.size w w2 := hb1.trans (hb2.mono hb1.size)
  obtain ⟨B1, hB1⟩ : ∃ B1, B1 = w1.heap.size := ⟨_, rfl⟩
  have hne : B1 ≠ B0 := by have := S1.out; have := HB0.out; omega
  rw [← hB1] at r2
  rw [← hw2, ← hB1, ← hB0]
  have t0 := r2.cell (show 0 < 3 by omega)
  have t1 := r2.cell (show 1 < 3 by omega)
  have t2 := r2.cell (show 2 < 3 by omega)
  have s0 := rB.cell (show 0 < 3 by omega)
  have s1 := rB.cell (show 1 < 3 by omega)
  have s2 := rB.cell (show 2 < 3 by omega)
  simp only [rCells] at t0 t1 t2 s0 s1 s2
  have z0 := rB.frozen 0
  have z1 := rB.frozen 1
  have z2 := rB.frozen 2
  have HB1 := hide hB1
  have HbW := hide hbw
  have HRB := hide rB
  clear hB1 hB0 hw2 hb2 r2 rB hbw hb1 look q1 r1
  go_wp2
  obtain ⟨wz, hwz⟩ : ∃ wz, wz = ((w2.setCell ⟨B0, 0, none⟩ (.slice ua un uc)).setCell ⟨B0, 1, none⟩ (.int .i64 h)).setCell ⟨B0, 2, none⟩ (.slice xa xn xc) := ⟨_, rfl⟩
  rw [← hwz]
  have hrow := ((HRB.out.set 0 (.slice ua un uc)).set 1 (.int .i64 h)).set 2 (.slice xa xn xc)
  rw [← hwz] at hrow
  have q0 : wz.cell? ⟨B0, 0, none⟩ = some (.slice ua un uc) := hrow.cell (show 0 < 3 by omega)
  have q1 : wz.cell? ⟨B0, 1, none⟩ = some (.int .i64 h) := hrow.cell (show 1 < 3 by omega)
  have q2 : wz.cell? ⟨B0, 2, none⟩ = some (.slice xa xn xc) := hrow.cell (show 2 < 3 by omega)
  refine bodyPost_ret (v := .agg #[.slice ua un uc, .int .i64 h, .slice xa xn xc]) (by simp [results, Try.results36, go_sem, q0, q1, q2]) rfl ?_
  have hB0 := HB0.out
  refine ⟨rfl, ?_⟩
  rw [hwz]
  exact ((HbW.out.setCell (by show _ ≤ B0; omega) _).setCell (by show _ ≤ B0; omega) _).setCell (by show _ ≤ B0; omega) _

/-- The keys of a document's selections, and which are spreads. -/
abbrev docKey (m : Nat → Nat) (n : Nat) (ky : Nat → Nat → ByteArray) : Nat → ByteArray := fun x => ky (own m n x) (loc m n x)
abbrev docSp (m : Nat → Nat) (n : Nat) (fg : Nat → Nat → ByteArray) : Nat → Bool := fun x => !(fg (own m n x) (loc m n x)).toList.isEmpty

theorem TreeAt.treeIn {w w' : World} {A n : Nat} {fb : Nat → Bool} {nm : Nat → ByteArray} {m : Nat → Nat} {par : Nat → Nat → Int} {ky fg : Nat → Nat → ByteArray} (h : TreeAt w w' A n fb nm m par ky fg) :
    ∃ K Sp FB H HV RV, TreeIn w' (w.heap.size + 1) A n (first m n) K Sp FB H w.heap.size (w.heap.size + 1 + 1) (docKey m n ky) (docSp m n fg) (spreadOf fb nm m fg n) HV RV (heldList m par n (spreadOf fb nm m fg n)) (rootsTo m par n (first m n)) ∧ Below w.heap.size w w' := by
  obtain ⟨K, Sp, FB, H, HV, RV, hP, ht, hb⟩ := h.parts
  exact ⟨K, Sp, FB, H, HV, RV, ⟨ht, hP.keys, hP.spreads, hP.frags, hP.heldAt, hP.held, hP.rootAt, hP.roots⟩, hb⟩

theorem spreadOf_lt {fb : Nat → Bool} {nm : Nat → ByteArray} {m : Nat → Nat} {fg : Nat → Nat → ByteArray} {n : Nat} (x d : Nat) (e : spreadOf fb nm m fg n x = some d) : d < n := by
  unfold spreadOf at e
  split at e
  · cases e
  · exact (fragIx_lt n e).1

theorem class_lt {m : Nat → Nat} {par : Nat → Nat → Int} {n : Nat} {fr : Nat → Option Nat} {c : Int} (y : Nat) (hy : y ∈ classList (first m n) (heldList m par n fr) (rootsTo m par n (first m n)) c) : y < first m n := by
  unfold classList at hy
  split at hy
  · exact rootsTo_lt hy
  · split at hy
    · exact heldList_lt hy
    · simp at hy

/-- What a group reaches. -/
def Reaches (n : Nat) (fb : Nat → Bool) (nm : Nat → ByteArray) (m : Nat → Nat) (par : Nat → Nat → Int) (ky fg : Nat → Nat → ByteArray) (c : Int) (fin : St) (k : Nat) : Prop :=
  Goes n (isField (docKey m n ky)) (docSp m n fg) (spreadOf fb nm m fg n) (heldList m par n (spreadOf fb nm m fg n)) (classList (first m n) (heldList m par n (spreadOf fb nm m fg n)) (rootsTo m par n (first m n)) c) [] (startSt (first m n) c) fin k

theorem class_ends {n : Nat} (fb : Nat → Bool) (nm : Nat → ByteArray) {m : Nat → Nat} {par : Nat → Nat → Int} (ky fg : Nat → Nat → ByteArray) (h : Orderly n m par) (hn : n ≤ 4096) (hN : first m n ≤ 4096) {c : Int} (hc : c < (first m n : Int) + n) : ∃ fin k, Reaches n fb nm m par ky fg c fin k ∧ k ≤ 33566720 := by
  refine reach_ends h hn hN _ _ _ spreadOf_lt (fun x e => ?_) _ (fun y hy => class_lt y hy) ?_ _
  · unfold spreadOf
    rw [if_pos]
    simpa [docSp] using e
  · unfold classList
    by_cases c1 : (first m n : Int) ≤ c
    · rw [if_pos c1]; exact sum_roots h _
    · rw [if_neg c1]
      by_cases c0 : 0 ≤ c
      · rw [if_pos c0]; exact sum_held h _ (by omega)
      · rw [if_neg c0]; simp

end Go.Proofs.Qxb6602394a.T
