/-
  THE CLONES, made by gen/clones.py: a fresh slice of the same content; nothing old has turned.
-/
import Derived.Test.Qxb6602394aBase
namespace Go.Proofs.Qxb6602394a.T
open Go.RowKit
set_option linter.unusedVariables false

theorem info3 : (Try.prog.info? 3).map (fun i => (i.zero, i.size, i.bytes)) = some (some (.int .i64 0), 1, 8) := by kernel_rfl
theorem info4 : (Try.prog.info? 4).map (fun i => (i.zero, i.size, i.bytes)) = some (some (.bool false), 1, 1) := by kernel_rfl
theorem info9 : (Try.prog.info? 9).map (fun i => (i.zero, i.size, i.bytes)) = some (some (.string ByteArray.empty), 1, 16) := by kernel_rfl
theorem info32 : (Try.prog.info? 32).map (fun i => (i.zero, i.size, i.bytes)) = some (some (.slice none 0 0), 1, 24) := by kernel_rfl
theorem info23 : (Try.prog.info? 23).map (fun i => (i.zero, i.size, i.bytes)) = some (some (.slice none 0 0), 1, 24) := by kernel_rfl
theorem size_of_info {e : TypeId} {z : Value} {b : Nat} (h : (Try.prog.info? e).map (fun i => (i.zero, i.size, i.bytes)) = some (some z, 1, b)) : (Try.prog.info? e).map (·.size) = some 1 := by
  obtain ⟨i, hi, hzz⟩ := Option.map_eq_some_iff.1 h
  simp only [Prod.mk.injEq] at hzz
  rw [hi, Option.map_some, hzz.2.1]

def rowCells (V : Nat → Value) (n : Nat) : List Value := (List.range n).map V
theorem rowCells_length (V : Nat → Value) (n : Nat) : (rowCells V n).length = n := by simp [rowCells]
theorem rowCells_get (V : Nat → Value) (n j : Nat) (v : Value) (h : (rowCells V n)[j]? = some v) : j < n ∧ v = V j := by
  simp [rowCells, List.getElem?_map] at h
  obtain ⟨a, ha, rfl⟩ := h
  have := List.getElem?_eq_some_iff.1 ha
  simp at this
  obtain ⟨h1, h2⟩ := this
  subst h2
  exact ⟨h1, rfl⟩

/-- 'copy' into a row that 'make' has just laid: the run's equation, for the walk. -/
theorem run_copy_fresh (P : Program) (w : World) (T E ty : TypeId) (z : Value) (hu : P.underlying T = some (.slice E)) (hs : (P.info? E).map (·.size) = some 1) (x : Addr) (n c : Nat) (V : Nat → Value)
    (h : RowAt w (some x) n V) (h1 : ∀ j, (V j).oneCell' = true) :
    ∃ w2, (Builtin.copy_ #[T, T] ty #[.slice (some ⟨w.heap.size, 0, none⟩) n n, .slice (some x) n c]).run P (w.alloc (.cells (madeCells #[z] n) E)) = .ok (goInt n) w2 ∧
      RowAt w2 (some ⟨w.heap.size, 0, none⟩) n V ∧ Below w.heap.size w w2 := by
  have hn := rowCells_length V n
  have hg : (w.alloc (.cells (madeCells #[z] n) E)).heap[w.heap.size]? = some (.cells (madeCells #[z] n) E (0, 0)) := Deep.blk_alloc_new _ _
  have hsz : (madeCells #[z] n).size = n := size_madeCells _ _
  have hrun := run_copy_row P (w.alloc (.cells (madeCells #[z] n) E)) T T ty E w.heap.size 0 n n x n c (madeCells #[z] n) E (rowCells V n) hu hs hg (by rw [hn]; exact (Nat.min_self n).symm)
    (fun j v hv => by
      obtain ⟨hj, rfl⟩ := rowCells_get V n j v hv
      obtain ⟨b, off, e, hc⟩ := h j hj
      simp only [Option.some.injEq] at e
      subst e
      rw [WideShapes.add_plain]
      rw [← hc]
      exact World.cell?_of_block (w := w) (Below.heap_alloc _ _ _ (lt_of_cell hc)))
    (by rw [hsz, hn]; omega) (fun v hv => by simp [rowCells] at hv; obtain ⟨j, _, rfl⟩ := hv; exact h1 j)
  have e : ((madeCells #[z] n).toList.take 0 ++ rowCells V n ++ (madeCells #[z] n).toList.drop (0 + (rowCells V n).length)).toArray = (rowCells V n).toArray := by
    simp only [List.take_zero, List.nil_append, Nat.zero_add]
    rw [List.drop_eq_nil_of_le (by rw [Array.length_toList, hsz, hn]; exact Nat.le_refl _), List.append_nil]
  rw [e, hn] at hrun
  refine ⟨_, hrun, fun j hj => ⟨w.heap.size, 0, rfl, ?_⟩, below_setRow ((Below.refl _ _).alloc (Nat.le_refl _) _) (Nat.le_refl _) _⟩
  rw [Nat.zero_add]
  rw [cell_setRow_same _ _ _ _ _ _ _ hg]
  simp [rowCells, hj]

set_option maxHeartbeats 400000 in
theorem cloneBools_any (V : Nat → Value) (a : Option Addr) (n c : Nat) (w : World) (hn : n ≤ 1048576) (h : RowAt w a n V) (h1 : ∀ j, (V j).oneCell' = true) :
    Calls Try.prog 10 #[.slice a n c] w fun e w' => ∃ a' c', e = .returned (.slice a' n c') ∧ RowAt w' a' n V ∧ (∀ x, a' = some x → w.heap.size ≤ x.block) ∧ Below w.heap.size w w' := by
  have q : ∀ (w : World) (a : Option Addr) (n c : Nat), (binOp .eql 22 (.slice a n c) (.slice none 0 0)).run Try.prog w = .ok (.bool a.isNone) w := fun w a n c => Lib.run_eql_slice_nil w 22 4 a n c 0 0 Try.underlying22
  cases a with
  | none =>
    have hn0 : n = 0 := by
      by_cases e : n = 0
      · exact e
      · obtain ⟨b, off, e2, _⟩ := h 0 (by omega)
        cases e2
    subst hn0
    clear h
    go_enter Try.func10, Try.ntmps10
    go_wp2
    go_ret
    exact ⟨none, 0, rfl, RowAt.nil _ _ _, (fun x h => by cases h), Below.refl _ _⟩
  | some x =>
    have hmk := run_make_row' (P := Try.prog) 22 4 (.bool false) 1 Try.underlying22 info4 rfl .i64 .i64 n (by omega) (by omega)
    obtain ⟨w2, hcp, hrow, hb⟩ := run_copy_fresh Try.prog w 22 4 3 (.bool false) Try.underlying22 (size_of_info info4) x n c V h h1
    clear h
    have HR : Hid (RowAt w2 (some ⟨w.heap.size, 0, none⟩) n V) := hrow
    clear hrow
    go_enter Try.func10, Try.ntmps10
    go_wp2
    go_ret
    exact ⟨_, _, rfl, HR.out, (fun x h => by cases h; exact Nat.le_refl _), hb⟩

set_option maxHeartbeats 400000 in
theorem cloneStrings_any (V : Nat → Value) (a : Option Addr) (n c : Nat) (w : World) (hn : n ≤ 1048576) (h : RowAt w a n V) (h1 : ∀ j, (V j).oneCell' = true) :
    Calls Try.prog 11 #[.slice a n c] w fun e w' => ∃ a' c', e = .returned (.slice a' n c') ∧ RowAt w' a' n V ∧ (∀ x, a' = some x → w.heap.size ≤ x.block) ∧ Below w.heap.size w w' := by
  have q : ∀ (w : World) (a : Option Addr) (n c : Nat), (binOp .eql 23 (.slice a n c) (.slice none 0 0)).run Try.prog w = .ok (.bool a.isNone) w := fun w a n c => Lib.run_eql_slice_nil w 23 9 a n c 0 0 Try.underlying23
  cases a with
  | none =>
    have hn0 : n = 0 := by
      by_cases e : n = 0
      · exact e
      · obtain ⟨b, off, e2, _⟩ := h 0 (by omega)
        cases e2
    subst hn0
    clear h
    go_enter Try.func11, Try.ntmps11
    go_wp2
    go_ret
    exact ⟨none, 0, rfl, RowAt.nil _ _ _, (fun x h => by cases h), Below.refl _ _⟩
  | some x =>
    have hmk := run_make_row' (P := Try.prog) 23 9 (.string ByteArray.empty) 16 Try.underlying23 info9 rfl .i64 .i64 n (by omega) (by omega)
    obtain ⟨w2, hcp, hrow, hb⟩ := run_copy_fresh Try.prog w 23 9 3 (.string ByteArray.empty) Try.underlying23 (size_of_info info9) x n c V h h1
    clear h
    have HR : Hid (RowAt w2 (some ⟨w.heap.size, 0, none⟩) n V) := hrow
    clear hrow
    go_enter Try.func11, Try.ntmps11
    go_wp2
    go_ret
    exact ⟨_, _, rfl, HR.out, (fun x h => by cases h; exact Nat.le_refl _), hb⟩

set_option maxHeartbeats 400000 in
theorem cloneInts_any (V : Nat → Value) (a : Option Addr) (n c : Nat) (w : World) (hn : n ≤ 1048576) (h : RowAt w a n V) (h1 : ∀ j, (V j).oneCell' = true) :
    Calls Try.prog 28 #[.slice a n c] w fun e w' => ∃ a' c', e = .returned (.slice a' n c') ∧ RowAt w' a' n V ∧ (∀ x, a' = some x → w.heap.size ≤ x.block) ∧ Below w.heap.size w w' := by
  have q : ∀ (w : World) (a : Option Addr) (n c : Nat), (binOp .eql 32 (.slice a n c) (.slice none 0 0)).run Try.prog w = .ok (.bool a.isNone) w := fun w a n c => Lib.run_eql_slice_nil w 32 3 a n c 0 0 Try.underlying32
  cases a with
  | none =>
    have hn0 : n = 0 := by
      by_cases e : n = 0
      · exact e
      · obtain ⟨b, off, e2, _⟩ := h 0 (by omega)
        cases e2
    subst hn0
    clear h
    go_enter Try.func28, Try.ntmps28
    go_wp2
    go_ret
    exact ⟨none, 0, rfl, RowAt.nil _ _ _, (fun x h => by cases h), Below.refl _ _⟩
  | some x =>
    have hmk := run_make_row' (P := Try.prog) 32 3 (.int .i64 0) 8 Try.underlying32 info3 rfl .i64 .i64 n (by omega) (by omega)
    obtain ⟨w2, hcp, hrow, hb⟩ := run_copy_fresh Try.prog w 32 3 3 (.int .i64 0) Try.underlying32 (size_of_info info3) x n c V h h1
    clear h
    have HR : Hid (RowAt w2 (some ⟨w.heap.size, 0, none⟩) n V) := hrow
    clear hrow
    go_enter Try.func28, Try.ntmps28
    go_wp2
    go_ret
    exact ⟨_, _, rfl, HR.out, (fun x h => by cases h; exact Nat.le_refl _), hb⟩

set_option maxHeartbeats 800000 in
theorem cloneIntss_any (V : Nat → Nat → Value) (a : Option Addr) (n c : Nat) (A : Nat → Option Addr) (m C : Nat → Nat) (w : World) (hn : n ≤ 1048576) (hm : ∀ i, i < n → m i ≤ 1048576) (h : RowsAt w a n A m C V) (h1 : ∀ i j, (V i j).oneCell' = true) :
    Calls Try.prog 12 #[.slice a n c] w fun e w' => ∃ a' c' A' C', e = .returned (.slice a' n c') ∧ RowsAt w' a' n A' m C' V ∧ Below w.heap.size w w' := by
  have q : ∀ (w : World) (a : Option Addr) (n c : Nat), (binOp .eql 24 (.slice a n c) (.slice none 0 0)).run Try.prog w = .ok (.bool a.isNone) w := fun w a n c => Lib.run_eql_slice_nil w 24 32 a n c 0 0 Try.underlying24
  cases a with
  | none =>
    have hn0 : n = 0 := by
      by_cases e : n = 0
      · exact e
      · obtain ⟨b, off, e2, _⟩ := h.outer 0 (by omega)
        cases e2
    subst hn0
    clear h
    go_enter Try.func12, Try.ntmps12
    go_wp2
    go_ret
    exact ⟨none, 0, A, C, rfl, ⟨RowAt.nil _ _ _, fun i hi => by omega⟩, Below.refl _ _⟩
  | some x =>
    have hmk := run_make_row' (P := Try.prog) 24 32 (.slice none 0 0) 24 Try.underlying24 info32 rfl .i64 .i64 n (by omega) (by omega)
    go_enter Try.func12, Try.ntmps12
    go_wp2
    clear hmk q
    go_loopg [4] n (fun k i wr => ∃ p : Nat, ∃ A' : Nat → Option Addr, ∃ C' : Nat → Nat, k = n - p ∧ p ≤ n ∧ i = .int .i64 p ∧ wr.rowIs w.heap.size 32 n (fun j => if j < p then .slice (A' j) (m j) (C' j) else .slice none 0 0) ∧ (∀ j, j < p → RowAt wr (A' j) (m j) (V j) ∧ ∀ x, A' j = some x → w.heap.size < x.block) ∧ Below w.heap.size w wr)
    case atStart => exact ⟨0, A, C, rfl, Nat.zero_le _, rfl, (World.rowIs_made w _ n 32).congr (fun j _ => by simp), fun j hj => by omega, (Below.refl _ _).alloc (Nat.le_refl _) _⟩
    case round =>
      obtain ⟨p, A', C', hk, hpn, rfl, hrow, hin', hb⟩ := hrel
      have HK : Hid (gk = n - p) := hk
      clear hk
      by_cases hlt : p < n
      · obtain ⟨b, off, ex, hc0⟩ := h.outer p hlt
        simp only [Option.some.injEq] at ex
        subst ex
        have hlb : b < w.heap.size := lt_of_cell hc0
        have hc : wr.cell? ⟨b, off + p, none⟩ = some (.slice (A p) (m p) (C p)) := (hb.cell (p := ⟨b, off + p, none⟩) hlb).trans hc0
        have hin : RowAt wr (A p) (m p) (V p) := by
          intro j hj
          obtain ⟨b2, o2, e2, hc2⟩ := h.inner p hlt j hj
          exact ⟨b2, o2, e2, (hb.cell (p := ⟨b2, o2 + j, none⟩) (lt_of_cell hc2)).trans hc2⟩
        have hmp := hm p hlt
        clear hc0 h hm
        have HROW : Hid (wr.rowIs w.heap.size 32 n (fun j => if j < p then .slice (A' j) (m j) (C' j) else .slice none 0 0)) := hrow
        have hgl := hrow.lt
        clear hrow
        go_wp2_with fail
        refine (cloneInts_any (V p) (A p) (m p) (C p) _ hmp hin (h1 p)).mono ?_
        rintro e w1 ⟨a', c', rfl, hr1, hx1, hb1⟩
        have hrow1 : w1.rowIs w.heap.size 32 n (fun j => if j < p then .slice (A' j) (m j) (C' j) else .slice none 0 0) := World.rowIs.of_block HROW.out (hb1.block _ hgl)
        have hcr := hrow1.cell hlt
        have hfr := hrow1.frozen p
        simp only [Nat.lt_irrefl, if_false] at hcr
        have HROW1 : Hid (w1.rowIs w.heap.size 32 n (fun j => if j < p then .slice (A' j) (m j) (C' j) else .slice none 0 0)) := hrow1
        clear hrow1 HROW
        go_wp2
        go_roundg (n - (p + 1))
        case measure => rw [HK.out]; omega
        case rel =>
          have hb2 : Below w.heap.size w w1 := hb.trans (hb1.mono hb.size)
          have keep : ∀ (aa : Option Addr) (mm : Nat) (VV : Nat → Value), RowAt w1 aa mm VV → (∀ x, aa = some x → w.heap.size < x.block) → RowAt (w1.setCell ⟨w.heap.size, p, none⟩ (.slice a' (m p) c')) aa mm VV := by
            intro aa mm VV hr hne j hj
            obtain ⟨b2, o2, e2, hc2⟩ := hr j hj
            have hne2 := hne _ e2
            refine ⟨b2, o2, e2, ?_⟩
            rw [World.cell?_setCell_other _ _ _ _ (by intro e; cases e; simp at hne2)]
            exact hc2
          refine ⟨p + 1, (fun j => if j = p then a' else A' j), (fun j => if j = p then c' else C' j), rfl, by omega, by go_num, (World.rowIs.set HROW1.out p _).congr (fun j _ => ?_), ?_, hb2.setCell (Nat.le_refl _) _⟩
          · by_cases e : j = p
            · subst e; simp
            · simp only [if_neg e]
              by_cases e2 : j < p
              · rw [if_pos e2, if_pos (by omega)]
              · rw [if_neg e2, if_neg (by omega)]
          · intro j hj
            by_cases e : j = p
            · subst e
              simp only [if_true]
              have hne : ∀ x, a' = some x → w.heap.size < x.block := fun x hx => Nat.lt_of_lt_of_le hgl (hx1 x hx)
              exact ⟨keep _ _ _ hr1 hne, hne⟩
            · simp only [if_neg e]
              obtain ⟨k1, k2⟩ := hin' j (by omega)
              exact ⟨keep _ _ _ (k1.below hb1) k2, k2⟩
      · have HF : Hid (RowsAt wr (some ⟨w.heap.size, 0, none⟩) n A' m C' V) := by
          refine ⟨fun j hj => ⟨w.heap.size, 0, rfl, ?_⟩, fun j hj => (hin' j (by omega)).1⟩
          rw [Nat.zero_add, hrow.cell hj, if_pos (by omega)]
        clear hrow hin' h hm
        go_wp2
        go_ret
        exact ⟨_, _, A', C', rfl, HF.out, hb⟩

set_option maxHeartbeats 800000 in
theorem cloneStringss_any (V : Nat → Nat → Value) (a : Option Addr) (n c : Nat) (A : Nat → Option Addr) (m C : Nat → Nat) (w : World) (hn : n ≤ 1048576) (hm : ∀ i, i < n → m i ≤ 1048576) (h : RowsAt w a n A m C V) (h1 : ∀ i j, (V i j).oneCell' = true) :
    Calls Try.prog 13 #[.slice a n c] w fun e w' => ∃ a' c' A' C', e = .returned (.slice a' n c') ∧ RowsAt w' a' n A' m C' V ∧ Below w.heap.size w w' := by
  have q : ∀ (w : World) (a : Option Addr) (n c : Nat), (binOp .eql 25 (.slice a n c) (.slice none 0 0)).run Try.prog w = .ok (.bool a.isNone) w := fun w a n c => Lib.run_eql_slice_nil w 25 23 a n c 0 0 Try.underlying25
  cases a with
  | none =>
    have hn0 : n = 0 := by
      by_cases e : n = 0
      · exact e
      · obtain ⟨b, off, e2, _⟩ := h.outer 0 (by omega)
        cases e2
    subst hn0
    clear h
    go_enter Try.func13, Try.ntmps13
    go_wp2
    go_ret
    exact ⟨none, 0, A, C, rfl, ⟨RowAt.nil _ _ _, fun i hi => by omega⟩, Below.refl _ _⟩
  | some x =>
    have hmk := run_make_row' (P := Try.prog) 25 23 (.slice none 0 0) 24 Try.underlying25 info23 rfl .i64 .i64 n (by omega) (by omega)
    go_enter Try.func13, Try.ntmps13
    go_wp2
    clear hmk q
    go_loopg [4] n (fun k i wr => ∃ p : Nat, ∃ A' : Nat → Option Addr, ∃ C' : Nat → Nat, k = n - p ∧ p ≤ n ∧ i = .int .i64 p ∧ wr.rowIs w.heap.size 23 n (fun j => if j < p then .slice (A' j) (m j) (C' j) else .slice none 0 0) ∧ (∀ j, j < p → RowAt wr (A' j) (m j) (V j) ∧ ∀ x, A' j = some x → w.heap.size < x.block) ∧ Below w.heap.size w wr)
    case atStart => exact ⟨0, A, C, rfl, Nat.zero_le _, rfl, (World.rowIs_made w _ n 23).congr (fun j _ => by simp), fun j hj => by omega, (Below.refl _ _).alloc (Nat.le_refl _) _⟩
    case round =>
      obtain ⟨p, A', C', hk, hpn, rfl, hrow, hin', hb⟩ := hrel
      have HK : Hid (gk = n - p) := hk
      clear hk
      by_cases hlt : p < n
      · obtain ⟨b, off, ex, hc0⟩ := h.outer p hlt
        simp only [Option.some.injEq] at ex
        subst ex
        have hlb : b < w.heap.size := lt_of_cell hc0
        have hc : wr.cell? ⟨b, off + p, none⟩ = some (.slice (A p) (m p) (C p)) := (hb.cell (p := ⟨b, off + p, none⟩) hlb).trans hc0
        have hin : RowAt wr (A p) (m p) (V p) := by
          intro j hj
          obtain ⟨b2, o2, e2, hc2⟩ := h.inner p hlt j hj
          exact ⟨b2, o2, e2, (hb.cell (p := ⟨b2, o2 + j, none⟩) (lt_of_cell hc2)).trans hc2⟩
        have hmp := hm p hlt
        clear hc0 h hm
        have HROW : Hid (wr.rowIs w.heap.size 23 n (fun j => if j < p then .slice (A' j) (m j) (C' j) else .slice none 0 0)) := hrow
        have hgl := hrow.lt
        clear hrow
        go_wp2_with fail
        refine (cloneStrings_any (V p) (A p) (m p) (C p) _ hmp hin (h1 p)).mono ?_
        rintro e w1 ⟨a', c', rfl, hr1, hx1, hb1⟩
        have hrow1 : w1.rowIs w.heap.size 23 n (fun j => if j < p then .slice (A' j) (m j) (C' j) else .slice none 0 0) := World.rowIs.of_block HROW.out (hb1.block _ hgl)
        have hcr := hrow1.cell hlt
        have hfr := hrow1.frozen p
        simp only [Nat.lt_irrefl, if_false] at hcr
        have HROW1 : Hid (w1.rowIs w.heap.size 23 n (fun j => if j < p then .slice (A' j) (m j) (C' j) else .slice none 0 0)) := hrow1
        clear hrow1 HROW
        go_wp2
        go_roundg (n - (p + 1))
        case measure => rw [HK.out]; omega
        case rel =>
          have hb2 : Below w.heap.size w w1 := hb.trans (hb1.mono hb.size)
          have keep : ∀ (aa : Option Addr) (mm : Nat) (VV : Nat → Value), RowAt w1 aa mm VV → (∀ x, aa = some x → w.heap.size < x.block) → RowAt (w1.setCell ⟨w.heap.size, p, none⟩ (.slice a' (m p) c')) aa mm VV := by
            intro aa mm VV hr hne j hj
            obtain ⟨b2, o2, e2, hc2⟩ := hr j hj
            have hne2 := hne _ e2
            refine ⟨b2, o2, e2, ?_⟩
            rw [World.cell?_setCell_other _ _ _ _ (by intro e; cases e; simp at hne2)]
            exact hc2
          refine ⟨p + 1, (fun j => if j = p then a' else A' j), (fun j => if j = p then c' else C' j), rfl, by omega, by go_num, (World.rowIs.set HROW1.out p _).congr (fun j _ => ?_), ?_, hb2.setCell (Nat.le_refl _) _⟩
          · by_cases e : j = p
            · subst e; simp
            · simp only [if_neg e]
              by_cases e2 : j < p
              · rw [if_pos e2, if_pos (by omega)]
              · rw [if_neg e2, if_neg (by omega)]
          · intro j hj
            by_cases e : j = p
            · subst e
              simp only [if_true]
              have hne : ∀ x, a' = some x → w.heap.size < x.block := fun x hx => Nat.lt_of_lt_of_le hgl (hx1 x hx)
              exact ⟨keep _ _ _ hr1 hne, hne⟩
            · simp only [if_neg e]
              obtain ⟨k1, k2⟩ := hin' j (by omega)
              exact ⟨keep _ _ _ (k1.below hb1) k2, k2⟩
      · have HF : Hid (RowsAt wr (some ⟨w.heap.size, 0, none⟩) n A' m C' V) := by
          refine ⟨fun j hj => ⟨w.heap.size, 0, rfl, ?_⟩, fun j hj => (hin' j (by omega)).1⟩
          rw [Nat.zero_add, hrow.cell hj, if_pos (by omega)]
        clear hrow hin' h hm
        go_wp2
        go_ret
        exact ⟨_, _, A', C', rfl, HF.out, hb⟩

end Go.Proofs.Qxb6602394a.T
