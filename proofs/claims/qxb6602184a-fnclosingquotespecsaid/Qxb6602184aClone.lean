/-
  zzCloneBytes: nil stays nil; any other slice of bytes is copied into a new row.
-/
import Derived.Test.Qxb6602184aRows
import Derived.WalkKit
import Derived.ProofKit
import Derived.WalkLawsBesides
import Derived.Laws.CopyOwn
import Derived.Deep.OwnRows
import Derived.Lib.SliceRun
import Derived.Below
import Derived.Outline
namespace Go.Proofs.Qxb6602184a.Cq
open Go.RowKit

theorem info5 : (Try.prog.info? 5).map (fun i => (i.zero, i.size, i.bytes)) = some (some (.int .u8 0), 1, 1) := by kernel_rfl
theorem size5 : (Try.prog.info? 5).map (·.size) = some 1 := by kernel_rfl

theorem clone_nil (w : World) :
    Calls Try.prog 10 #[.slice none 0 0] w fun e w' => e = .returned (.slice none 0 0) ∧ w' = w := by
  have q : ∀ (w : World) (a : Option Addr) (n c : Nat), (binOp .eql 22 (.slice a n c) (.slice none 0 0)).run Try.prog w = .ok (.bool a.isNone) w := fun w a n c => Lib.run_eql_slice_nil w 22 5 a n c 0 0 Try.underlying22
  go_enter Try.func10, Try.ntmps10
  go_wp2
  go_ret
  exact ⟨rfl, rfl⟩

def byteCells (f : Nat → Int) (n : Nat) : List Value := (List.range n).map fun j => .int .u8 (f j)
theorem byteCells_length (f : Nat → Int) (n : Nat) : (byteCells f n).length = n := by simp [byteCells]
theorem byteCells_get (f : Nat → Int) (n j : Nat) (v : Value) (h : (byteCells f n)[j]? = some v) : j < n ∧ v = .int .u8 (f j) := by
  simp [byteCells, List.getElem?_map] at h
  obtain ⟨a, ha, rfl⟩ := h
  have := List.getElem?_eq_some_iff.1 ha
  simp at this
  obtain ⟨h1, h2⟩ := this
  subst h2
  exact ⟨h1, rfl⟩
theorem byteCells_one (f : Nat → Int) (n : Nat) : ∀ v ∈ byteCells f n, v.oneCell' = true := by
  intro v hv
  simp [byteCells] at hv
  obtain ⟨a, _, rfl⟩ := hv
  rfl
/-- 'copy' into a row that 'make' has just laid: the run's equation, for the walk. -/
theorem run_copy_fresh (P : Program) (w : World) (T E ty : TypeId) (z : Value) (hu : P.underlying T = some (.slice E)) (hs : (P.info? E).map (·.size) = some 1) (x : Addr) (n c : Nat) (cs : List Value) (hn : cs.length = n)
    (hcs : ∀ j v, cs[j]? = some v → w.cell? (x.add j) = some v) (h1 : ∀ v ∈ cs, v.oneCell' = true) :
    ∃ w2, (Builtin.copy_ #[T, T] ty #[.slice (some ⟨w.heap.size, 0, none⟩) n n, .slice (some x) n c]).run P (w.alloc (.cells (madeCells #[z] n) E)) = .ok (goInt n) w2 ∧
      w2.heap[w.heap.size]? = some (.cells cs.toArray E (0, 0)) ∧ w2.heap.size = w.heap.size + 1 ∧ Below w.heap.size w w2 := by
  have hg : (w.alloc (.cells (madeCells #[z] n) E)).heap[w.heap.size]? = some (.cells (madeCells #[z] n) E (0, 0)) := Deep.blk_alloc_new _ _
  have hsz : (madeCells #[z] n).size = n := size_madeCells _ _
  have hrun := run_copy_row P (w.alloc (.cells (madeCells #[z] n) E)) T T ty E w.heap.size 0 n n x n c (madeCells #[z] n) E cs hu hs hg (by rw [hn]; exact (Nat.min_self n).symm)
    (fun j v hv => by
      have h := hcs j v hv
      have hlt : (x.add j).block < w.heap.size := by
        unfold World.cell? at h
        split at h
        · rename_i hb; exact (Array.getElem?_eq_some_iff.1 hb).1
        · cases h
      rw [← h]
      exact World.cell?_of_block (w := w) (Below.heap_alloc _ _ _ hlt))
    (by rw [hsz, hn]; omega) h1
  have e : ((madeCells #[z] n).toList.take 0 ++ cs ++ (madeCells #[z] n).toList.drop (0 + cs.length)).toArray = cs.toArray := by
    simp only [List.take_zero, List.nil_append, Nat.zero_add]
    rw [List.drop_eq_nil_of_le (by rw [Array.length_toList, hsz, hn]; exact Nat.le_refl _), List.append_nil]
  rw [e, hn] at hrun
  exact ⟨_, hrun, setRow_heap _ _ _ _ _ _ hg, by simp, below_setRow ((Below.refl _ _).alloc (Nat.le_refl _) _) (Nat.le_refl _) _⟩

set_option maxHeartbeats 400000 in
theorem clone_some (f : Nat → Int) (x : Addr) (n c : Nat) (w : World) (hn : n ≤ 65536) (hc : ∀ j, j < n → w.cell? (x.add j) = some (.int .u8 (f j))) :
    Calls Try.prog 10 #[.slice (some x) n c] w fun e w' => e = .returned (.slice (some ⟨w.heap.size, 0, none⟩) n n) ∧ (∀ j, j < n → w'.cell? ⟨w.heap.size, 0 + j, none⟩ = some (.int .u8 (f j))) ∧ Below w.heap.size w w' := by
  have q : ∀ (w : World) (a : Option Addr) (n c : Nat), (binOp .eql 22 (.slice a n c) (.slice none 0 0)).run Try.prog w = .ok (.bool a.isNone) w := fun w a n c => Lib.run_eql_slice_nil w 22 5 a n c 0 0 Try.underlying22
  have hmk := run_make_row' (P := Try.prog) 22 5 (.int .u8 0) 1 Try.underlying22 info5 rfl .i64 .i64 n (by omega) (by omega)
  obtain ⟨w2, hcp, hrow, hsz, hb⟩ := run_copy_fresh Try.prog w 22 5 3 (.int .u8 0) Try.underlying22 size5 x n c (byteCells f n) (byteCells_length f n)
    (fun j v hv => by obtain ⟨h1, rfl⟩ := byteCells_get f n j v hv; exact hc j h1) (byteCells_one f n)
  have HR : Hid (w2.heap[w.heap.size]? = some (.cells (byteCells f n).toArray 5 (0, 0))) := hrow
  clear hrow hc hsz
  go_enter Try.func10, Try.ntmps10
  go_wp2
  go_ret
  refine ⟨rfl, fun j hj => ?_, hb⟩
  simp [World.cell?, HR.out, byteCells, hj]

end Go.Proofs.Qxb6602184a.Cq
