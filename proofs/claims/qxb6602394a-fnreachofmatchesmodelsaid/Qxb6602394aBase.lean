/-
  ROWS OF CELLS THAT ARE READ: what the walks of this seat are told of a slice.
-/
import Derived.Test.Qxb6602394aRows
import Derived.WalkKit
import Derived.ProofKit
import Derived.WalkLawsBesides
import Derived.Deep.LoopGhost
import Derived.Deep.OwnRows
import Derived.Deep.QuietTactic
import Derived.BigQuiet
import Derived.Lib.SliceRun
import Derived.Laws.CopyOwn
import Derived.Below
import Derived.Outline
namespace Go.Proofs.Qxb6602394a.T
open Go.RowKit

/-- The slice at 'a' holds 'V j' at place j, for each of its n places. -/
def RowAt (w : World) (a : Option Addr) (n : Nat) (V : Nat → Value) : Prop :=
  ∀ j, j < n → ∃ b off, a = some ⟨b, off, none⟩ ∧ w.cell? ⟨b, off + j, none⟩ = some (V j)

theorem RowAt.cell {w : World} {b off n : Nat} {V : Nat → Value} (h : RowAt w (some ⟨b, off, none⟩) n V) {j : Nat} (hj : j < n) : w.cell? ⟨b, off + j, none⟩ = some (V j) := by
  obtain ⟨b', off', e, hc⟩ := h j hj
  simp only [Option.some.injEq, Addr.mk.injEq, and_true] at e
  obtain ⟨rfl, rfl⟩ := e
  exact hc

theorem lt_of_cell {w : World} {a : Addr} {v : Value} (h : w.cell? a = some v) : a.block < w.heap.size := by
  unfold World.cell? at h
  split at h
  · rename_i hb; exact (Array.getElem?_eq_some_iff.1 hb).1
  · cases h

theorem RowAt.below {w w' : World} {a : Option Addr} {n : Nat} {V : Nat → Value} (h : RowAt w a n V) (hb : Below w.heap.size w w') : RowAt w' a n V := by
  intro j hj
  obtain ⟨b, off, e, hc⟩ := h j hj
  exact ⟨b, off, e, (hb.cell (p := ⟨b, off + j, none⟩) (lt_of_cell hc)).trans hc⟩

theorem RowAt.nil (w : World) (a : Option Addr) (V : Nat → Value) : RowAt w a 0 V := fun j hj => by omega

theorem RowAt.congr {w : World} {a : Option Addr} {n : Nat} {V V' : Nat → Value} (h : RowAt w a n V) (e : ∀ j, j < n → V j = V' j) : RowAt w a n V' := by
  intro j hj
  obtain ⟨b, off, ha, hc⟩ := h j hj
  exact ⟨b, off, ha, by rw [hc, e j hj]⟩

/-- A slice of slices. -/
structure RowsAt (w : World) (a : Option Addr) (n : Nat) (A : Nat → Option Addr) (m C : Nat → Nat) (V : Nat → Nat → Value) : Prop where
  outer : RowAt w a n (fun i => .slice (A i) (m i) (C i))
  inner : ∀ i, i < n → RowAt w (A i) (m i) (V i)

theorem RowsAt.below {w w' : World} {a : Option Addr} {n : Nat} {A : Nat → Option Addr} {m C : Nat → Nat} {V : Nat → Nat → Value} (h : RowsAt w a n A m C V) (hb : Below w.heap.size w w') : RowsAt w' a n A m C V :=
  ⟨h.outer.below hb, fun i hi => (h.inner i hi).below hb⟩

/-- A guard's answer: it returns a bool and has written nothing; where it says yes, Q holds. (A name of its own: the walk's simp would take the '∃ r : Bool' apart.) -/
def Answers (e : Ending) (w w' : World) (Q : Prop) : Prop := ∃ r : Bool, e = .returned (.bool r) ∧ w = w' ∧ (r = true → Q)

theorem Answers.no {w : World} {Q : Prop} : Answers (.returned (.bool false)) w w Q := ⟨false, rfl, rfl, fun h => by cases h⟩
theorem Answers.yes {w : World} {Q : Prop} (h : Q) : Answers (.returned (.bool true)) w w Q := ⟨true, rfl, rfl, fun _ => h⟩

end Go.Proofs.Qxb6602394a.T
