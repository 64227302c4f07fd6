/-
  newSelectionTree: what lies in memory once every selection stands in its list: of that the last loops turn the struct's field 'fragments' and the row of what the selections hold.
-/
import Derived.Test.Qxb6602394aMid
namespace Go.Proofs.Qxb6602394a.T
open Go.RowKit
set_option linter.unusedVariables false

/-- w0: the world when the lists were whole; no block of theirs has turned since. -/
structure Done (w w0 wr : World) (A n all K Sp H base : Nat) (fv : Value) (m : Nat → Nat) (kx : Nat → ByteArray) (sx : Nat → Bool) (V Hv : Nat → Value) : Prop where
  below : Below w.heap.size w wr
  t : wr.rowIs (w.heap.size + 1) 66 7 (tCells A n w.heap.size (.slice (some ⟨K, 0, none⟩) all all) (.slice (some ⟨Sp, 0, none⟩) all all) fv (.slice (some ⟨H, 0, none⟩) all all) (.slice (some ⟨w.heap.size + 1 + 1, 0, none⟩) (n + 1) (n + 1)))
  f : wr.rowIs (w.heap.size + 1 + 1) 3 (n + 1) (firstTo m n)
  k : wr.rowIs K 9 all (fun x => .string (kx x))
  s : wr.rowIs Sp 4 all (fun x => .bool (sx x))
  r : wr.rowIs w.heap.size 32 n V
  h : wr.rowIs H 32 all Hv
  keep : ∀ b, base ≤ b → b < w0.heap.size → wr.heap[b]? = w0.heap[b]?
  top : w0.heap.size ≤ wr.heap.size
  lk : w.heap.size + 1 + 1 < K ∧ w.heap.size + 1 + 1 < Sp ∧ w.heap.size + 1 + 1 < H ∧ K ≠ Sp ∧ K ≠ H ∧ Sp ≠ H ∧ K < base ∧ Sp < base ∧ H < base ∧ base ≤ w0.heap.size

section
variable {w w0 wr : World} {A n all K Sp H base : Nat} {fv : Value} {m : Nat → Nat} {par : Nat → Nat → Int} {kx : Nat → ByteArray} {sx : Nat → Bool} {V Hv : Nat → Value}

theorem Done.of_mid {ck cl : Nat} (h : Mid w wr A n all K Sp H base m par kx sx ck cl V) (hck : all ≤ ck) : Done w wr wr A n all K Sp H base (.slice none 0 0) m kx sx V (fun y => V (n + y)) := by
  have lk := h.lk
  have sz := h.size
  refine ⟨h.below, h.t, h.f, h.k.congr (fun x hx => by rw [if_pos (by omega)]), h.s.congr (fun x hx => by rw [if_pos (by omega)]), h.r, h.h, fun _ _ _ => rfl, Nat.le_refl _, by omega⟩

/-- Whatever leaves the blocks below w0's end as they are. -/
theorem Done.kept {w1 : World} (h : Done w w0 wr A n all K Sp H base fv m kx sx V Hv) (hb : Below w0.heap.size wr w1) : Done w w0 w1 A n all K Sp H base fv m kx sx V Hv := by
  obtain ⟨l1, l2, l3, l4, l5, l6, l7, l8, l9, l10⟩ := h.lk
  exact ⟨h.below.trans (hb.mono (by omega)), h.t.of_block (hb.block _ (by omega)), h.f.of_block (hb.block _ (by omega)), h.k.of_block (hb.block _ (by omega)), h.s.of_block (hb.block _ (by omega)), h.r.of_block (hb.block _ (by omega)), h.h.of_block (hb.block _ (by omega)),
    fun b h1 h2 => (hb.block b h2).trans (h.keep b h1 h2), Nat.le_trans h.top hb.size, h.lk⟩

theorem Done.alloc (h : Done w w0 wr A n all K Sp H base fv m kx sx V Hv) (o : Obj) : Done w w0 (wr.alloc o) A n all K Sp H base fv m kx sx V Hv := h.kept ((Below.refl _ _).alloc h.top _)
theorem Done.drew (h : Done w w0 wr A n all K Sp H base fv m kx sx V Hv) : Done w w0 wr.drew A n all K Sp H base fv m kx sx V Hv := h.kept (Below.refl _ _).drew
theorem Done.new (h : Done w w0 wr A n all K Sp H base fv m kx sx V Hv) {a : Addr} (ha : w0.heap.size ≤ a.block) (v : Value) : Done w w0 (wr.setCell a v) A n all K Sp H base fv m kx sx V Hv := h.kept ((Below.refl _ _).setCell ha _)

theorem Done.setT (h : Done w w0 wr A n all K Sp H base fv m kx sx V Hv) (v : Value) : Done w w0 (wr.setCell ⟨w.heap.size + 1, 3, none⟩ v) A n all K Sp H base v m kx sx V Hv := by
  obtain ⟨l1, l2, l3, l4, l5, l6, l7, l8, l9, l10⟩ := h.lk
  have oth : ∀ {b : Nat} {t : TypeId} {c : Nat} {f : Nat → Value}, wr.rowIs b t c f → b ≠ w.heap.size + 1 → (wr.setCell ⟨w.heap.size + 1, 3, none⟩ v).rowIs b t c f := fun h h1 => h.setOther h1 _
  refine ⟨h.below.setCell (by show _ ≤ w.heap.size + 1; omega) _, World.rowIs.congr (h.t.set 3 _) (fun j hj => ?_), oth h.f (by omega), oth h.k (by omega), oth h.s (by omega), oth h.r (by omega), oth h.h (by omega), fun b h1 h2 => (Below.heap_setCell _ _ _ _ (by show b ≠ w.heap.size + 1; omega)).trans (h.keep b h1 h2), ?_, h.lk⟩
  · match j, hj with
    | 0, _ => rfl
    | 1, _ => rfl
    | 2, _ => rfl
    | 3, _ => rfl
    | 4, _ => rfl
    | 5, _ => rfl
    | 6, _ => rfl
  · have : (wr.setCell ⟨w.heap.size + 1, 3, none⟩ v).heap.size = wr.heap.size := by simp [World.setCell]
    rw [this]; exact h.top

theorem Done.setH (h : Done w w0 wr A n all K Sp H base fv m kx sx V Hv) (x : Nat) (v : Value) : Done w w0 (wr.setCell ⟨H, x, none⟩ v) A n all K Sp H base fv m kx sx V (fun y => if y = x then v else Hv y) := by
  obtain ⟨l1, l2, l3, l4, l5, l6, l7, l8, l9, l10⟩ := h.lk
  have oth : ∀ {b : Nat} {t : TypeId} {c : Nat} {f : Nat → Value}, wr.rowIs b t c f → b ≠ H → (wr.setCell ⟨H, x, none⟩ v).rowIs b t c f := fun h h1 => h.setOther h1 _
  refine ⟨h.below.setCell (by show _ ≤ H; omega) _, oth h.t (by omega), oth h.f (by omega), oth h.k l5, oth h.s l6, oth h.r (by omega), h.h.set x v, fun b h1 h2 => (Below.heap_setCell _ _ _ _ (by show b ≠ H; omega)).trans (h.keep b h1 h2), ?_, h.lk⟩
  have : (wr.setCell ⟨H, x, none⟩ v).heap.size = wr.heap.size := by simp [World.setCell]
  rw [this]; exact h.top

theorem Done.congr {Hv' : Nat → Value} (h : Done w w0 wr A n all K Sp H base fv m kx sx V Hv) (e : ∀ y, y < all → Hv y = Hv' y) : Done w w0 wr A n all K Sp H base fv m kx sx V Hv' :=
  ⟨h.below, h.t, h.f, h.k, h.s, h.r, h.h.congr e, h.keep, h.top, h.lk⟩

/-- The lists read as they did. -/
theorem Done.lists {L : Nat → List Nat} (h : Done w w0 wr A n all K Sp H base fv m kx sx V Hv) {N : Nat} (hL : Lists w0 base N V L) (k : Nat) (hk : k < N) : ListAt wr (V k) (L k) := ((hL.owns k hk).kept h.keep).listAt

end
end Go.Proofs.Qxb6602394a.T
