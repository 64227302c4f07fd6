/-
  newSelectionTree: what lies in memory while the rows are laid.
-/
import Derived.Test.Qxb6602394aByName
import Derived.Test.Qxb6602394aLists
import Derived.Test.Qxb6602394aLast
import Derived.Deep.RegionHeld3
import Derived.Deep.DeepCutAuto
namespace Go.Proofs.Qxb6602394a.T
open Go.RowKit
set_option linter.unusedVariables false

/-- The cells of the struct that newSelectionTree boxes. -/
def tCells (A n R : Nat) (k s f h x : Value) (i : Nat) : Value :=
  match i with
  | 0 => .slice (some ⟨A, 0, none⟩) n n
  | 1 => k
  | 2 => s
  | 3 => f
  | 4 => h
  | 5 => .slice (some ⟨R, 0, none⟩) n n
  | _ => x

/-- What lies in memory while 'first' is filled: the roots' row, the struct, 'first'. -/
structure Base1 (w wr : World) (A n : Nat) (x : Value) (fF : Nat → Value) : Prop where
  below : Below w.heap.size w wr
  r : wr.rowIs w.heap.size 32 n (fun _ => .slice none 0 0)
  t : wr.rowIs (w.heap.size + 1) 66 7 (tCells A n w.heap.size (.slice none 0 0) (.slice none 0 0) (.slice none 0 0) (.slice none 0 0) x)
  f : wr.rowIs (w.heap.size + 1 + 1) 3 (n + 1) fF
  size : wr.heap.size = w.heap.size + 1 + 1 + 1

def firstTo (m : Nat → Nat) (p j : Nat) : Value := .int .i64 ((if j ≤ p then first m j else 0 : Nat) : Int)

theorem base1_start (w : World) (A n : Nat) (m : Nat → Nat) :
    Base1 w (((w.alloc (.cells (madeCells #[.slice none 0 0] n) 32)).alloc (.cells #[.slice (some ⟨A, 0, none⟩) n n, .slice none 0 0, .slice none 0 0, .slice none 0 0, .slice none 0 0, .slice (some ⟨w.heap.size, 0, none⟩) n n, .slice none 0 0] 66)).alloc (.cells (madeCells #[.int .i64 0] (n + 1)) 3))
      A n (.slice none 0 0) (firstTo m 0) := by
  have s1 : (w.alloc (.cells (madeCells #[.slice none 0 0] n) 32)).heap.size = w.heap.size + 1 := by simp
  refine ⟨(((Below.refl _ _).alloc (Nat.le_refl _) _).alloc (by simp) _).alloc (by simp; omega) _, ((World.rowIs_made w _ n 32).alloc _).alloc _, ?_, ?_, by simp⟩
  · refine World.rowIs.alloc (World.rowIs.congr (g := tCells A n w.heap.size (.slice none 0 0) (.slice none 0 0) (.slice none 0 0) (.slice none 0 0) (.slice none 0 0)) ?_ (fun _ _ => rfl)) _
    have := World.rowIs_alloc (w.alloc (.cells (madeCells #[.slice none 0 0] n) 32)) #[.slice (some ⟨A, 0, none⟩) n n, .slice none 0 0, .slice none 0 0, .slice none 0 0, .slice none 0 0, .slice (some ⟨w.heap.size, 0, none⟩) n n, .slice none 0 0] 66
      (tCells A n w.heap.size (.slice none 0 0) (.slice none 0 0) (.slice none 0 0) (.slice none 0 0) (.slice none 0 0)) (fun i hi => by
        have : i < 7 := by simpa using hi
        match i, this with
        | 0, _ => rfl
        | 1, _ => rfl
        | 2, _ => rfl
        | 3, _ => rfl
        | 4, _ => rfl
        | 5, _ => rfl
        | 6, _ => rfl)
    rw [s1] at this
    exact this
  · have := World.rowIs_made ((w.alloc (.cells (madeCells #[.slice none 0 0] n) 32)).alloc (.cells #[.slice (some ⟨A, 0, none⟩) n n, .slice none 0 0, .slice none 0 0, .slice none 0 0, .slice none 0 0, .slice (some ⟨w.heap.size, 0, none⟩) n n, .slice none 0 0] 66)) (.int .i64 0) (n + 1) 3
    rw [show ((w.alloc (.cells (madeCells #[.slice none 0 0] n) 32)).alloc (.cells #[.slice (some ⟨A, 0, none⟩) n n, .slice none 0 0, .slice none 0 0, .slice none 0 0, .slice none 0 0, .slice (some ⟨w.heap.size, 0, none⟩) n n, .slice none 0 0] 66)).heap.size = w.heap.size + 1 + 1 by simp] at this
    refine this.congr (fun j _ => ?_)
    unfold firstTo
    by_cases e : j ≤ 0
    · have : j = 0 := by omega
      subst this; rfl
    · rw [if_neg e]; rfl

theorem Base1.step {w wr : World} {A n p : Nat} {x : Value} {m : Nat → Nat} (h : Base1 w wr A n x (firstTo m p)) (v : Int) (hv : v = (first m p : Int) + m p) : Base1 w (wr.setCell ⟨w.heap.size + 1 + 1, p + 1, none⟩ (.int .i64 v)).drew A n x (firstTo m (p + 1)) := by
  refine ⟨(h.below.setCell (by show _ ≤ w.heap.size + 1 + 1; omega) _).drew, World.rowIs.drew (h.r.setOther (by show w.heap.size ≠ w.heap.size + 1 + 1; omega) _), World.rowIs.drew (h.t.setOther (by show w.heap.size + 1 ≠ w.heap.size + 1 + 1; omega) _), World.rowIs.drew (World.rowIs.congr (h.f.set (p + 1) _) (fun j _ => ?_)), ?_⟩
  · unfold firstTo
    by_cases e : j = p + 1
    · subst e; rw [if_pos rfl, if_pos (Nat.le_refl _), hv, first_succ]; rfl
    · rw [if_neg e]
      by_cases e2 : j ≤ p
      · rw [if_pos e2, if_pos (by omega)]
      · rw [if_neg e2, if_neg (by omega)]
  · have : (wr.setCell ⟨w.heap.size + 1 + 1, p + 1, none⟩ (.int .i64 v)).drew.heap.size = wr.heap.size := by simp [World.setCell, World.drew]
    rw [this, h.size]

theorem Base1.store6 {w wr : World} {A n : Nat} {x : Value} {fF : Nat → Value} (h : Base1 w wr A n x fF) (v : Value) : Base1 w (wr.setCell ⟨w.heap.size + 1, 6, none⟩ v) A n v fF := by
  refine ⟨h.below.setCell (by show _ ≤ w.heap.size + 1; omega) _, h.r.setOther (by show w.heap.size ≠ w.heap.size + 1; omega) _, World.rowIs.congr (h.t.set 6 _) (fun j hj => ?_), h.f.setOther (by show w.heap.size + 1 + 1 ≠ w.heap.size + 1; omega) _, ?_⟩
  · match j, hj with
    | 0, _ => rfl
    | 1, _ => rfl
    | 2, _ => rfl
    | 3, _ => rfl
    | 4, _ => rfl
    | 5, _ => rfl
    | 6, _ => rfl
  · have : (wr.setCell ⟨w.heap.size + 1, 6, none⟩ v).heap.size = wr.heap.size := by simp [World.setCell]
    rw [this, h.size]

/-- What lies in memory when all rows are laid: behind them the lists. -/
structure Mid0 (w wr : World) (A n all K Sp H : Nat) (m : Nat → Nat) : Prop where
  below : Below w.heap.size w wr
  r : wr.rowIs w.heap.size 32 n (fun _ => .slice none 0 0)
  t : wr.rowIs (w.heap.size + 1) 66 7 (tCells A n w.heap.size (.slice (some ⟨K, 0, none⟩) all all) (.slice (some ⟨Sp, 0, none⟩) all all) (.slice none 0 0) (.slice (some ⟨H, 0, none⟩) all all) (.slice (some ⟨w.heap.size + 1 + 1, 0, none⟩) (n + 1) (n + 1)))
  f : wr.rowIs (w.heap.size + 1 + 1) 3 (n + 1) (firstTo m n)
  k : wr.rowIs K 9 all (fun _ => .string ByteArray.empty)
  s : wr.rowIs Sp 4 all (fun _ => .bool false)
  h : wr.rowIs H 32 all (fun _ => .slice none 0 0)
  lk : w.heap.size + 1 + 1 < K ∧ w.heap.size + 1 + 1 < Sp ∧ w.heap.size + 1 + 1 < H ∧ K ≠ Sp ∧ K ≠ H ∧ Sp ≠ H

theorem heap_alloc3 (X : World) (o1 o2 o3 o : Obj) (i b : Nat) (hb : b = X.heap.size + i) (h : ([o1, o2, o3] : List Obj)[i]? = some o) : (((X.alloc o1).alloc o2).alloc o3).drew.heap[b]? = some o := by
  subst hb
  show ((((X.heap.push o1).push o2).push o3))[X.heap.size + i]? = _
  match i, h with
  | 0, h =>
    simp at h; subst h
    rw [Array.getElem?_push, if_neg (by simp; omega), Array.getElem?_push, if_neg (by simp), Array.getElem?_push, if_pos (by simp)]
  | 1, h =>
    simp at h; subst h
    rw [Array.getElem?_push, if_neg (by simp), Array.getElem?_push, if_pos (by simp)]
  | 2, h =>
    simp at h; subst h
    rw [Array.getElem?_push, if_pos (by simp)]
  | i + 3, h => simp at h

theorem mid0_of {w wz : World} {A n all : Nat} {m : Nat → Nat} (h : Base1 w wz A n (.slice (some ⟨w.heap.size + 1 + 1, 0, none⟩) (n + 1) (n + 1)) (firstTo m n)) (i j k : Nat) {K Sp H : Nat} {o1 o2 o3 : Obj}
    (hK : K = w.heap.size + 3 + i) (hS : Sp = w.heap.size + 3 + j) (hH : H = w.heap.size + 3 + k) (hne : i ≠ j ∧ i ≠ k ∧ j ≠ k)
    (e1 : ([o1, o2, o3] : List Obj)[i]? = some (.cells (madeCells #[.string ByteArray.empty] all) 9)) (e2 : ([o1, o2, o3] : List Obj)[j]? = some (.cells (madeCells #[.bool false] all) 4)) (e3 : ([o1, o2, o3] : List Obj)[k]? = some (.cells (madeCells #[.slice none 0 0] all) 32)) :
    Mid0 w (((((((wz.setCell ⟨w.heap.size + 1, 1, none⟩ (.slice (some ⟨K, 0, none⟩) all all)).setCell ⟨w.heap.size + 1, 2, none⟩ (.slice (some ⟨Sp, 0, none⟩) all all)).setCell ⟨w.heap.size + 1, 4, none⟩ (.slice (some ⟨H, 0, none⟩) all all)).alloc o1).alloc o2).alloc o3).drew) A n all K Sp H m := by
  have hsz : (((wz.setCell ⟨w.heap.size + 1, 1, none⟩ (.slice (some ⟨K, 0, none⟩) all all)).setCell ⟨w.heap.size + 1, 2, none⟩ (.slice (some ⟨Sp, 0, none⟩) all all)).setCell ⟨w.heap.size + 1, 4, none⟩ (.slice (some ⟨H, 0, none⟩) all all)).heap.size = w.heap.size + 3 := by
    simp [World.setCell, h.size]
  have hbel : Below w.heap.size w (((wz.setCell ⟨w.heap.size + 1, 1, none⟩ (.slice (some ⟨K, 0, none⟩) all all)).setCell ⟨w.heap.size + 1, 2, none⟩ (.slice (some ⟨Sp, 0, none⟩) all all)).setCell ⟨w.heap.size + 1, 4, none⟩ (.slice (some ⟨H, 0, none⟩) all all)) :=
    ((h.below.setCell (by show _ ≤ w.heap.size + 1; omega) _).setCell (by show _ ≤ w.heap.size + 1; omega) _).setCell (by show _ ≤ w.heap.size + 1; omega) _
  have n1 : w.heap.size ≠ w.heap.size + 1 := by omega
  have n2 : w.heap.size + 1 + 1 ≠ w.heap.size + 1 := by omega
  refine ⟨?_, ?_, ?_, ?_, ?_, ?_, ?_, by omega⟩
  · exact (((hbel.alloc (by omega) _).alloc (by rw [show ∀ (X : World) (o : Obj), (X.alloc o).heap.size = X.heap.size + 1 from fun X o => by simp]; omega) _).alloc (by rw [show ∀ (X : World) (o : Obj), (X.alloc o).heap.size = X.heap.size + 1 from fun X o => by simp, show ∀ (X : World) (o : Obj), (X.alloc o).heap.size = X.heap.size + 1 from fun X o => by simp]; omega) _).drew
  · exact World.rowIs.drew ((((((h.r.setOther n1 _).setOther n1 _).setOther n1 _).alloc _).alloc _).alloc _)
  · refine World.rowIs.drew (((World.rowIs.congr (((h.t.set 1 _).set 2 _).set 4 _) (fun c hc => ?_)).alloc _).alloc _ |>.alloc _)
    match c, hc with
    | 0, _ => rfl
    | 1, _ => rfl
    | 2, _ => rfl
    | 3, _ => rfl
    | 4, _ => rfl
    | 5, _ => rfl
    | 6, _ => rfl
  · exact World.rowIs.drew ((((((h.f.setOther n2 _).setOther n2 _).setOther n2 _).alloc _).alloc _).alloc _)
  · exact ⟨_, heap_alloc3 _ o1 o2 o3 _ i K (by omega) e1, size_madeCells _ _, fun c hc => by simp [madeCells, hc, Nat.mod_one]⟩
  · exact ⟨_, heap_alloc3 _ o1 o2 o3 _ j Sp (by omega) e2, size_madeCells _ _, fun c hc => by simp [madeCells, hc, Nat.mod_one]⟩
  · exact ⟨_, heap_alloc3 _ o1 o2 o3 _ k H (by omega) e3, size_madeCells _ _, fun c hc => by simp [madeCells, hc, Nat.mod_one]⟩

theorem mid0_gen {w wz : World} {A n all : Nat} {m : Nat → Nat} (h : Base1 w wz A n (.slice (some ⟨w.heap.size + 1 + 1, 0, none⟩) (n + 1) (n + 1)) (firstTo m n)) {K Sp H : Nat} {o1 o2 o3 : Obj}
    (h1 : ∃ i, K = w.heap.size + 3 + i ∧ ([o1, o2, o3] : List Obj)[i]? = some (.cells (madeCells #[.string ByteArray.empty] all) 9)) (h2 : ∃ i, Sp = w.heap.size + 3 + i ∧ ([o1, o2, o3] : List Obj)[i]? = some (.cells (madeCells #[.bool false] all) 4))
    (h3 : ∃ i, H = w.heap.size + 3 + i ∧ ([o1, o2, o3] : List Obj)[i]? = some (.cells (madeCells #[.slice none 0 0] all) 32)) (hne : K ≠ Sp ∧ K ≠ H ∧ Sp ≠ H) :
    ∃ K' Sp' H', Mid0 w (((((((wz.setCell ⟨w.heap.size + 1, 1, none⟩ (.slice (some ⟨K, 0, none⟩) all all)).setCell ⟨w.heap.size + 1, 2, none⟩ (.slice (some ⟨Sp, 0, none⟩) all all)).setCell ⟨w.heap.size + 1, 4, none⟩ (.slice (some ⟨H, 0, none⟩) all all)).alloc o1).alloc o2).alloc o3).drew) A n all K' Sp' H' m := by
  obtain ⟨i, e1, f1⟩ := h1
  obtain ⟨j, e2, f2⟩ := h2
  obtain ⟨k, e3, f3⟩ := h3
  exact ⟨K, Sp, H, mid0_of h i j k e1 e2 e3 (by omega) f1 f2 f3⟩

end Go.Proofs.Qxb6602394a.T
