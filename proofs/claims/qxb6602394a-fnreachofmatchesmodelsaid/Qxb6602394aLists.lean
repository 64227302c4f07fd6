/-
  LISTS OF INTS BUILT BY append: each nil till something is appended, each in a block of its own.
-/
import Derived.Test.Qxb6602394aBase
import Derived.Test.Qxb6602394aPlain
import Derived.Deep.AppendLies
namespace Go.Proofs.Qxb6602394a.T
open Go.RowKit
set_option linter.unusedVariables false

def numCells (L : List Nat) : List Value := L.map fun (x : Nat) => .int .i64 (x : Int)
theorem numCells_length (L : List Nat) : (numCells L).length = L.length := by simp [numCells]
theorem numCells_snoc (L : List Nat) (x : Nat) : numCells (L ++ [x]) = numCells L ++ [.int .i64 (x : Int)] := by simp [numCells]

/-- A list as it is read: nil if empty, else its numbers one behind the other. -/
def ListAt (w : World) (v : Value) (L : List Nat) : Prop :=
  (L = [] ∧ v = .slice none 0 0) ∨
  (L ≠ [] ∧ ∃ g cap, v = .slice (some ⟨g, 0, none⟩) L.length cap ∧ ∀ j, j < L.length → w.cell? ⟨g, j, none⟩ = some (.int .i64 ((L.getD j 0 : Nat) : Int)))

theorem ListAt.below {w w' : World} {v : Value} {L : List Nat} (h : ListAt w v L) (hb : Below w.heap.size w w') : ListAt w' v L := by
  rcases h with h | ⟨h0, g, cap, hv, hc⟩
  · exact .inl h
  · exact .inr ⟨h0, g, cap, hv, fun j hj => (hb.cell (p := ⟨g, j, none⟩) (lt_of_cell (hc j hj))).trans (hc j hj)⟩

def Owns (w : World) (base : Nat) (v : Value) (L : List Nat) : Prop := w.ownsRow base 3 1 v L.length (numCells L) ∧ (L = [] → v = .slice none 0 0)

theorem Owns.listAt {w : World} {base : Nat} {v : Value} {L : List Nat} (h : Owns w base v L) : ListAt w v L := by
  by_cases e : L = []
  · exact .inl ⟨e, h.2 e⟩
  · refine .inr ⟨e, ?_⟩
    have hpos : 0 < L.length := List.length_pos_iff.2 e
    obtain ⟨g, cap, rfl, _, _⟩ := h.1.form hpos
    refine ⟨g, cap, rfl, fun j hj => ?_⟩
    rw [h.1.cellAt j (by simpa using hj)]
    simp [numCells, hj]

theorem Owns.kept {w w' : World} {base : Nat} {v : Value} {L : List Nat} (h : Owns w base v L) (hk : ∀ b, base ≤ b → b < w.heap.size → w'.heap[b]? = w.heap[b]?) : Owns w' base v L := by
  refine ⟨?_, h.2⟩
  obtain ⟨h1, h2⟩ := h.1
  refine ⟨h1, ?_⟩
  rcases h2 with h2 | ⟨g, cap, cur, hv, hg, hh, r⟩
  · exact .inl h2
  · refine .inr ⟨g, cap, cur, hv, hg, ?_, r⟩
    rw [hk g hg (Array.getElem?_eq_some_iff.1 hh).1]
    exact hh

/-- N lists, each in a block of its own from 'base' on. -/
structure Lists (w : World) (base N : Nat) (V : Nat → Value) (L : Nat → List Nat) : Prop where
  owns : ∀ k, k < N → Owns w base (V k) (L k)
  apart : ∀ k k', k < N → k' < N → k ≠ k' → ∀ g, (V k).ownBlock = some g → (V k').ownBlock ≠ some g

theorem Lists.start (w : World) (base N : Nat) : Lists w base N (fun _ => .slice none 0 0) (fun _ => []) :=
  ⟨fun k hk => ⟨World.ownsRow_nil _ _ _ _, fun _ => rfl⟩, fun k k' hk hk' hne g h => by cases h⟩

theorem Lists.kept {w w' : World} {base N : Nat} {V : Nat → Value} {L : Nat → List Nat} (h : Lists w base N V L) (hk : ∀ b, base ≤ b → b < w.heap.size → w'.heap[b]? = w.heap[b]?) : Lists w' base N V L :=
  ⟨fun k hk' => (h.owns k hk').kept hk, h.apart⟩

theorem Lists.alloc {w : World} {base N : Nat} {V : Nat → Value} {L : Nat → List Nat} (h : Lists w base N V L) (o : Obj) : Lists (w.alloc o) base N V L :=
  h.kept fun b _ hb => Below.heap_alloc _ _ _ hb

theorem Lists.setBelow {w : World} {base N : Nat} {V : Nat → Value} {L : Nat → List Nat} (h : Lists w base N V L) {a : Addr} (ha : a.block < base) (u : Value) : Lists (w.setCell a u) base N V L :=
  h.kept fun b hb _ => Below.heap_setCell _ _ _ _ (by omega)

theorem Lists.drew {w : World} {base N : Nat} {V : Nat → Value} {L : Nat → List Nat} (h : Lists w base N V L) : Lists w.drew base N V L := h.kept fun _ _ _ => rfl

theorem Lists.congr {w : World} {base N : Nat} {V V' : Nat → Value} {L L' : Nat → List Nat} (h : Lists w base N V L) (hV : ∀ k, k < N → V k = V' k) (hL : ∀ k, k < N → L k = L' k) : Lists w base N V' L' :=
  ⟨fun k hk => by rw [← hV k hk, ← hL k hk]; exact h.owns k hk, fun k k' hk hk' hne g hg => by rw [← hV k' hk']; rw [← hV k hk] at hg; exact h.apart k k' hk hk' hne g hg⟩

theorem Lists.append {w w1 : World} {base N : Nat} {V : Nat → Value} {L : Nat → List Nat} (h : Lists w base N V L) {k0 : Nat} (hk0 : k0 < N) {x g cap : Nat} (hb : base ≤ w.heap.size)
    (hown : w1.ownsRow base 3 1 (.slice (some ⟨g, 0, none⟩) ((L k0).length + 1) cap) ((L k0).length + 1) (numCells (L k0) ++ [.int .i64 (x : Int)])) (hgrow : w.grownBy w1 (V k0).ownBlock) (hat : (V k0).ownBlock = some g ∨ g = w.heap.size) :
    Lists w1 base N (fun k => if k = k0 then .slice (some ⟨g, 0, none⟩) ((L k0).length + 1) cap else V k) (fun k => if k = k0 then L k ++ [x] else L k) := by
  have hother : ∀ k, k < N → k ≠ k0 → (V k).ownBlock ≠ some g := by
    intro k hk hne he
    rcases hat with hat | hat
    · exact h.apart k k0 hk hk0 hne g he hat
    · have := ((h.owns k hk).1.lt g he).2
      omega
  refine ⟨fun k hk => ?_, fun k k' hk hk' hne g' hg' => ?_⟩
  · by_cases e : k = k0
    · subst e
      simp only [if_true]
      refine ⟨?_, fun h => by simp at h⟩
      rw [numCells_snoc, List.length_append, List.length_singleton]
      exact hown
    · simp only [if_neg e]
      refine ⟨(h.owns k hk).1.kept hgrow ?_, (h.owns k hk).2⟩
      cases hv : (V k).ownBlock with
      | none => exact .inl rfl
      | some b =>
        refine .inr (fun he => ?_)
        exact h.apart k k0 hk hk0 e b hv he.symm
  · by_cases e : k = k0
    · subst e
      simp only [if_true] at hg'
      rw [if_neg (fun h => hne h.symm)]
      have : g = g' := by simpa [Value.ownBlock] using hg'
      subst this
      exact hother k' hk' (fun h => hne h.symm)
    · simp only [if_neg e] at hg'
      by_cases e' : k' = k0
      · subst e'
        simp only [if_true]
        intro he
        have : g = g' := by simpa [Value.ownBlock] using he
        subst this
        exact hother k hk e hg'
      · simp only [if_neg e']
        exact h.apart k k' hk hk' hne g' hg'

end Go.Proofs.Qxb6602394a.T
