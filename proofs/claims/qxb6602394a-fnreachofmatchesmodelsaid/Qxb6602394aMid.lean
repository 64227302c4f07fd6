/-
  newSelectionTree: what lies in memory while the selections are gone through.
-/
import Derived.Test.Qxb6602394aTreeBase
namespace Go.Proofs.Qxb6602394a.T
open Go.RowKit
set_option linter.unusedVariables false

/-- Of the first ck selections key and kind are laid; of the first cl it is told where they stand. -/
structure Mid (w wr : World) (A n all K Sp H base : Nat) (m : Nat → Nat) (par : Nat → Nat → Int) (kx : Nat → ByteArray) (sx : Nat → Bool) (ck cl : Nat) (V : Nat → Value) : Prop where
  below : Below w.heap.size w wr
  t : wr.rowIs (w.heap.size + 1) 66 7 (tCells A n w.heap.size (.slice (some ⟨K, 0, none⟩) all all) (.slice (some ⟨Sp, 0, none⟩) all all) (.slice none 0 0) (.slice (some ⟨H, 0, none⟩) all all) (.slice (some ⟨w.heap.size + 1 + 1, 0, none⟩) (n + 1) (n + 1)))
  f : wr.rowIs (w.heap.size + 1 + 1) 3 (n + 1) (firstTo m n)
  k : wr.rowIs K 9 all (fun x => if x < ck then .string (kx x) else .string ByteArray.empty)
  s : wr.rowIs Sp 4 all (fun x => if x < ck then .bool (sx x) else .bool false)
  r : wr.rowIs w.heap.size 32 n V
  h : wr.rowIs H 32 all (fun y => V (n + y))
  lists : Lists wr base (n + all) V (listsTo m par n cl)
  lk : w.heap.size + 1 + 1 < K ∧ w.heap.size + 1 + 1 < Sp ∧ w.heap.size + 1 + 1 < H ∧ K ≠ Sp ∧ K ≠ H ∧ Sp ≠ H ∧ K < base ∧ Sp < base ∧ H < base
  size : base ≤ wr.heap.size

section
variable {w wr : World} {A n all K Sp H base : Nat} {m : Nat → Nat} {par : Nat → Nat → Int} {kx : Nat → ByteArray} {sx : Nat → Bool} {ck cl : Nat} {V : Nat → Value}

theorem Mid.start (h : Mid0 w wr A n all K Sp H m) (par : Nat → Nat → Int) (kx : Nat → ByteArray) (sx : Nat → Bool) : Mid w wr A n all K Sp H wr.heap.size m par kx sx 0 0 (fun _ => .slice none 0 0) := by
  have l1 := h.k.lt
  have l2 := h.s.lt
  have l3 := h.h.lt
  have lk := h.lk
  refine ⟨h.below, h.t, h.f, h.k.congr (fun _ _ => by simp), h.s.congr (fun _ _ => by simp), h.r, h.h, (Lists.start wr wr.heap.size (n + all)).congr (fun _ _ => rfl) (fun k _ => (listsTo_zero m par n k).symm), by omega, Nat.le_refl _⟩

theorem Mid.alloc (h : Mid w wr A n all K Sp H base m par kx sx ck cl V) (o : Obj) : Mid w (wr.alloc o) A n all K Sp H base m par kx sx ck cl V :=
  ⟨h.below.alloc h.below.size _, h.t.alloc _, h.f.alloc _, h.k.alloc _, h.s.alloc _, h.r.alloc _, h.h.alloc _, h.lists.alloc _, h.lk, by have := h.size; simp; omega⟩

theorem Mid.drew (h : Mid w wr A n all K Sp H base m par kx sx ck cl V) : Mid w wr.drew A n all K Sp H base m par kx sx ck cl V :=
  ⟨h.below.drew, h.t.drew, h.f.drew, h.k.drew, h.s.drew, h.r.drew, h.h.drew, h.lists.drew, h.lk, h.size⟩

/-- The two stores of a selection's key and kind. -/
theorem Mid.keys (h : Mid w wr A n all K Sp H base m par kx sx ck cl V) {key : ByteArray} {sp : Bool} (hk : kx ck = key) (hs : sx ck = sp) :
    Mid w ((wr.setCell ⟨K, ck, none⟩ (.string key)).setCell ⟨Sp, ck, none⟩ (.bool sp)) A n all K Sp H base m par kx sx (ck + 1) cl V := by
  obtain ⟨l1, l2, l3, l4, l5, l6, l7, l8, l9⟩ := h.lk
  have hb : w.heap.size ≤ w.heap.size + 1 + 1 := by omega
  have aK : ∀ b, b ≤ w.heap.size + 1 + 1 → b ≠ K := fun b hb => by omega
  have aS : ∀ b, b ≤ w.heap.size + 1 + 1 → b ≠ Sp := fun b hb => by omega
  have two : ∀ {b : Nat} {t : TypeId} {c : Nat} {f : Nat → Value}, wr.rowIs b t c f → b ≠ K → b ≠ Sp → ((wr.setCell ⟨K, ck, none⟩ (.string key)).setCell ⟨Sp, ck, none⟩ (.bool sp)).rowIs b t c f := fun h h1 h2 => (h.setOther h1 _).setOther h2 _
  refine ⟨(h.below.setCell (by show _ ≤ K; omega) _).setCell (by show _ ≤ Sp; omega) _, two h.t (aK _ (by omega)) (aS _ (by omega)), two h.f (aK _ (Nat.le_refl _)) (aS _ (Nat.le_refl _)), ?_, ?_, two h.r (aK _ (by omega)) (aS _ (by omega)), two h.h (fun e => l5 e.symm) (fun e => l6 e.symm),
    (h.lists.setBelow (by exact l7) _).setBelow (by exact l8) _, h.lk, ?_⟩
  · refine World.rowIs.setOther (World.rowIs.congr (h.k.set ck _) (fun x _ => ?_)) (by exact l4) _
    by_cases e : x = ck
    · subst e; rw [if_pos rfl, if_pos (by omega), hk]
    · rw [if_neg e]
      by_cases e2 : x < ck
      · rw [if_pos e2, if_pos (by omega)]
      · rw [if_neg e2, if_neg (by omega)]
  · refine World.rowIs.congr ((h.s.setOther (fun e => l4 e.symm) _).set ck _) (fun x _ => ?_)
    by_cases e : x = ck
    · subst e; rw [if_pos rfl, if_pos (by omega), hs]
    · rw [if_neg e]
      by_cases e2 : x < ck
      · rw [if_pos e2, if_pos (by omega)]
      · rw [if_neg e2, if_neg (by omega)]
  · have : ((wr.setCell ⟨K, ck, none⟩ (.string key)).setCell ⟨Sp, ck, none⟩ (.bool sp)).heap.size = wr.heap.size := by simp [World.setCell]
    rw [this]; exact h.size

/-- An append to list k0, ahead of the store into its row: all rows are as they were. -/
theorem Mid.grown {w1 : World} (h : Mid w wr A n all K Sp H base m par kx sx ck cl V) {k0 : Nat} (hk0 : k0 < n + all) (hg : wr.grownBy w1 (V k0).ownBlock) : (∀ b, b < base → w1.heap[b]? = wr.heap[b]?) ∧ Below w.heap.size w w1 := by
  have key : ∀ g, (V k0).ownBlock = some g → base ≤ g := fun g hg => ((h.lists.owns k0 hk0).1.lt g hg).1
  have hbw : w.heap.size ≤ base := by have := h.lk; omega
  refine ⟨fun b hb => hg.block b (by have := h.size; omega) (fun e => ?_), h.below.grown hg h.below.size (fun k hk => by have := key k hk; omega)⟩
  have := key b e.symm
  omega

/-- The append and the store behind it, into the roots' row .. -/
theorem Mid.root {w1 : World} (h : Mid w wr A n all K Sp H base m par kx sx ck cl V) {i j g cap : Nat} (hi : i < n) (hj : j < m i) (hp : par i j < 0) (hall : all = first m n) (hcl : cl = first m i + j)
    (hown : w1.ownsRow base 3 1 (.slice (some ⟨g, 0, none⟩) ((listsTo m par n cl i).length + 1) cap) ((listsTo m par n cl i).length + 1) (numCells (listsTo m par n cl i) ++ [.int .i64 (cl : Int)])) (hg : wr.grownBy w1 (V i).ownBlock) (hat : (V i).ownBlock = some g ∨ g = wr.heap.size) :
    Mid w (w1.setCell ⟨w.heap.size, i, none⟩ (.slice (some ⟨g, 0, none⟩) ((listsTo m par n cl i).length + 1) cap)) A n all K Sp H base m par kx sx ck (cl + 1)
      (fun k => if k = i then .slice (some ⟨g, 0, none⟩) ((listsTo m par n cl i).length + 1) cap else V k) := by
  obtain ⟨l1, l2, l3, l4, l5, l6, l7, l8, l9⟩ := h.lk
  obtain ⟨hrows, hbel⟩ := h.grown (k0 := i) (by omega) hg
  have row : ∀ {b : Nat} {t : TypeId} {c : Nat} {f : Nat → Value}, wr.rowIs b t c f → b < base → b ≠ w.heap.size → (w1.setCell ⟨w.heap.size, i, none⟩ (.slice (some ⟨g, 0, none⟩) ((listsTo m par n cl i).length + 1) cap)).rowIs b t c f := fun h h1 h2 => (h.of_block (hrows _ h1)).setOther h2 _
  have hL := h.lists.append (k0 := i) (by omega) (by exact h.size) hown hg hat
  refine ⟨hbel.setCell (Nat.le_refl _) _, row h.t (by omega) (by omega), row h.f (by omega) (by omega), row h.k l7 (by omega), row h.s l8 (by omega), ?_, ?_, ?_, h.lk, ?_⟩
  · exact World.rowIs.congr ((h.r.of_block (hrows _ (by omega))).set i _) (fun x _ => rfl)
  · refine World.rowIs.congr (row h.h l9 (by omega)) (fun y _ => ?_)
    rw [if_neg (by omega)]
  · refine Lists.congr (hL.setBelow (by show w.heap.size < base; omega) _) (fun _ _ => rfl) (fun k hk => ?_)
    rw [hcl, listsTo_root hi hj hp k (by omega)]
  · have : (w1.setCell ⟨w.heap.size, i, none⟩ (.slice (some ⟨g, 0, none⟩) ((listsTo m par n cl i).length + 1) cap)).heap.size = w1.heap.size := by simp [World.setCell]
    rw [this]; have := hg.size; have := h.size; omega

/-- .. or into the row of what the selections hold. -/
theorem Mid.kid {w1 : World} (h : Mid w wr A n all K Sp H base m par kx sx ck cl V) {i j p g cap : Nat} (hi : i < n) (hj : j < m i) (hp : par i j = (p : Int)) (hpm : p < m i) (hall : all = first m n) (hcl : cl = first m i + j)
    (hown : w1.ownsRow base 3 1 (.slice (some ⟨g, 0, none⟩) ((listsTo m par n cl (n + (first m i + p))).length + 1) cap) ((listsTo m par n cl (n + (first m i + p))).length + 1) (numCells (listsTo m par n cl (n + (first m i + p))) ++ [.int .i64 (cl : Int)]))
    (hg : wr.grownBy w1 (V (n + (first m i + p))).ownBlock) (hat : (V (n + (first m i + p))).ownBlock = some g ∨ g = wr.heap.size) :
    Mid w (w1.setCell ⟨H, first m i + p, none⟩ (.slice (some ⟨g, 0, none⟩) ((listsTo m par n cl (n + (first m i + p))).length + 1) cap)) A n all K Sp H base m par kx sx ck (cl + 1)
      (fun k => if k = n + (first m i + p) then .slice (some ⟨g, 0, none⟩) ((listsTo m par n cl (n + (first m i + p))).length + 1) cap else V k) := by
  have hlt := place_lt (m := m) hi hpm
  obtain ⟨l1, l2, l3, l4, l5, l6, l7, l8, l9⟩ := h.lk
  obtain ⟨hrows, hbel⟩ := h.grown (k0 := n + (first m i + p)) (by omega) hg
  have row : ∀ {b : Nat} {t : TypeId} {c : Nat} {f : Nat → Value}, wr.rowIs b t c f → b < base → b ≠ H → (w1.setCell ⟨H, first m i + p, none⟩ (.slice (some ⟨g, 0, none⟩) ((listsTo m par n cl (n + (first m i + p))).length + 1) cap)).rowIs b t c f := fun h h1 h2 => (h.of_block (hrows _ h1)).setOther h2 _
  have hL := h.lists.append (k0 := n + (first m i + p)) (by omega) (by exact h.size) hown hg hat
  refine ⟨hbel.setCell (by show _ ≤ H; omega) _, row h.t (by omega) (by omega), row h.f (by omega) (by omega), row h.k l7 l5, row h.s l8 l6, ?_, ?_, ?_, h.lk, ?_⟩
  · refine World.rowIs.congr (row h.r (by omega) (by omega)) (fun x hx => ?_)
    rw [if_neg (by omega)]
  · refine World.rowIs.congr ((h.h.of_block (hrows _ l9)).set (first m i + p) _) (fun y _ => ?_)
    by_cases e : y = first m i + p
    · subst e; simp
    · rw [if_neg e, if_neg (by omega)]
  · refine Lists.congr (hL.setBelow (by exact l9) _) (fun _ _ => rfl) (fun k hk => ?_)
    rw [hcl, listsTo_kid hi hj hp hpm k (by omega)]
  · have : (w1.setCell ⟨H, first m i + p, none⟩ (.slice (some ⟨g, 0, none⟩) ((listsTo m par n cl (n + (first m i + p))).length + 1) cap)).heap.size = w1.heap.size := by simp [World.setCell]
    rw [this]; have := hg.size; have := h.size; omega

end
end Go.Proofs.Qxb6602394a.T
