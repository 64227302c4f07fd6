/-
  reachOf OVER A DOCUMENT: in an orderly document the going through ends, within a bound.
-/
import Derived.Test.Qxb6602394aReach
import Derived.Test.Qxb6602394aModelBase
namespace Go.Proofs.Qxb6602394a.T
open Go.RowKit
set_option linter.unusedVariables false

/-- The parent of a selection, by its number. -/
def parentOf (m : Nat → Nat) (par : Nat → Nat → Int) (n x : Nat) : Option Nat :=
  if x < first m n ∧ 0 ≤ par (own m n x) (loc m n x) then some (first m (own m n x) + (par (own m n x) (loc m n x)).toNat) else none

/-- Parents lie before their kids. -/
def Orderly (n : Nat) (m : Nat → Nat) (par : Nat → Nat → Int) : Prop := ∀ i j, i < n → j < m i → par i j < (j : Int)

section
variable {n : Nat} {m : Nat → Nat} {par : Nat → Nat → Int}

theorem parentOf_lt (h : Orderly n m par) : ∀ y p, parentOf m par n y = some p → p < y := by
  intro y p e
  unfold parentOf at e
  by_cases c : y < first m n ∧ 0 ≤ par (own m n y) (loc m n y)
  · rw [if_pos c] at e
    have e := Option.some.inj e
    have h1 := own_lt n y c.1
    have h2 := loc_lt c.1
    have h3 := h _ _ h1.1 h2.1
    omega
  · rw [if_neg c] at e; cases e

theorem kidsTo_parent (h : Orderly n m par) {x : Nat} (hx : x < first m n) : kidsTo m par n (first m n) x = (List.range (first m n)).filter (fun z => decide (parentOf m par n z = some x)) := by
  unfold kidsTo
  refine List.filter_congr (fun z hz => ?_)
  have hz : z < first m n := by simpa using hz
  refine decide_eq_decide.2 ?_
  have hx1 := own_lt n x hx
  have hx2 := loc_lt hx
  have hz1 := own_lt n z hz
  have hz2 := loc_lt hz
  constructor
  · rintro ⟨h1, h2⟩
    unfold parentOf
    rw [h1, if_pos ⟨hz, by omega⟩]
    congr 1
    omega
  · intro e
    unfold parentOf at e
    by_cases c : z < first m n ∧ 0 ≤ par (own m n z) (loc m n z)
    · rw [if_pos c] at e
      have e := Option.some.inj e
      have h3 := h _ _ hz1.1 hz2.1
      have hp : (par (own m n z) (loc m n z)).toNat < m (own m n z) := by omega
      have h4 := own_eq (m := m) n _ _ hz1.1 hp
      have h5 := loc_eq (m := m) hz1.1 hp
      rw [e] at h4 h5
      rw [h4, h5]
      exact ⟨rfl, by omega⟩
    · rw [if_neg c] at e; cases e

theorem rootsTo_top {d z : Nat} (e : decide (own m n z = d ∧ par d (loc m n z) < 0) = true) : parentOf m par n z = none := by
  simp only [decide_eq_true_eq] at e
  unfold parentOf
  rw [if_neg]
  rintro ⟨_, h⟩
  rw [e.1] at h
  omega

/-- What a selection may cost. -/
def weight (m : Nat → Nat) (par : Nat → Nat → Int) (n x : Nat) : Nat := 2 * size (first m n) (parentOf m par n) x

theorem sum_twice (f : Nat → Nat) (L : List Nat) : (L.map (fun x => 2 * f x)).sum = 2 * (L.map f).sum := by
  induction L with
  | nil => rfl
  | cons x L ih => simp only [List.map_cons, List.sum_cons, ih]; omega

theorem cost_kids (h : Orderly n m par) {x : Nat} (hx : x < first m n) : cost (weight m par n) (kidsTo m par n (first m n) x) < weight m par n x := by
  unfold cost weight
  rw [sum_twice, kidsTo_parent h hx]
  have := size_kids (first m n) (parentOf_lt h) hx
  omega

theorem sum_roots (h : Orderly n m par) (d : Nat) : ((rootsTo m par n (first m n) d).map (weight m par n)).sum ≤ 2 * first m n := by
  unfold weight
  rw [sum_twice]
  have := size_tops (first m n) (parentOf_lt h) (fun z => decide (own m n z = d ∧ par d (loc m n z) < 0)) (fun z => rootsTo_top)
  unfold rootsTo
  omega

theorem sum_held (h : Orderly n m par) (fr : Nat → Option Nat) {x : Nat} (hx : x < first m n) : ((heldList m par n fr x).map (weight m par n)).sum ≤ 2 * first m n := by
  unfold heldList
  cases fr x with
  | some d => exact sum_roots h d
  | none =>
    have h1 := cost_kids h hx
    have h2 := size_le (first m n) (pa := parentOf m par n) x
    simp only
    unfold cost at h1
    have h3 : weight m par n x ≤ 2 * first m n := by unfold weight; omega
    omega

theorem heldList_lt {fr : Nat → Option Nat} {x y : Nat} (hy : y ∈ heldList m par n fr x) : y < first m n := by
  unfold heldList at hy
  cases e : fr x with
  | some d => rw [e] at hy; simp only [rootsTo, List.mem_filter, List.mem_range] at hy; exact hy.1
  | none => rw [e] at hy; simp only [kidsTo, List.mem_filter, List.mem_range] at hy; exact hy.1

theorem rootsTo_lt {d y : Nat} (hy : y ∈ rootsTo m par n (first m n) d) : y < first m n := by
  simp only [rootsTo, List.mem_filter, List.mem_range] at hy; exact hy.1

theorem heldList_length {fr : Nat → Option Nat} {x : Nat} : (heldList m par n fr x).length ≤ first m n := by
  unfold heldList
  cases fr x with
  | some d => exact rootsTo_length _ _ _ _ _
  | none => exact kidsTo_length _ _ _ _ _

/-- The going through of a set that a group may have. -/
theorem reach_ends (h : Orderly n m par) (hn : n ≤ 4096) (hN : first m n ≤ 4096) (isF sp : Nat → Bool) (fr : Nat → Option Nat) (hfr : ∀ x d, fr x = some d → d < n) (hsp : ∀ x, sp x = false → fr x = none) (S : List Nat) (hS : ∀ x, x ∈ S → x < first m n) (hw : (S.map (weight m par n)).sum ≤ 2 * first m n) (st : St) :
    ∃ fin k, Goes n isF sp fr (heldList m par n fr) S [] st fin k ∧ k ≤ 33566720 := by
  refine Goes.ends (N := first m n) (rt := rootsTo m par n (first m n)) (wt := weight m par n) (fun x hx => ?_) (fun x d e => ⟨hfr x d e, by unfold heldList; rw [e]⟩) (fun x hx e => ?_) (fun x y hy => heldList_lt hy) 33566720 S [] st ?_ hS (by simp)
  · have := cost_kids h hx; omega
  · have e : fr x = none := by rcases e with e | e; exact hsp x e; exact e
    have := cost_kids h hx
    unfold heldList
    rw [e]
    exact this
  · have h1 : open_ (weight m par n) (rootsTo m par n (first m n)) n st.ent ≤ sumTo (fun _ => 8193) n := by
      refine sumTo_le n (fun d hd => ?_)
      have := sum_roots h d
      split
      · omega
      · unfold cost; omega
    rw [sumTo_const] at h1
    simp only [costs, List.map_nil, List.sum_nil]
    omega

end

end Go.Proofs.Qxb6602394a.T
