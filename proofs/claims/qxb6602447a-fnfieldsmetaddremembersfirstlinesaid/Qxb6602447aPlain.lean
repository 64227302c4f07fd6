/-
  THE PLAIN PART: the first of a script's pairs whose key is x.
-/
namespace Go.Proofs.Qxb6602447a.T

/-- The value of the first of the pairs (X 0, Y 0), .., (X (k-1), Y (k-1)) whose key is x. -/
def scan (X Y : Nat → Int) : Nat → Int → Option Int
  | 0, _ => none
  | k + 1, x => match scan X Y k x with
    | some v => some v
    | none => if X k = x then some (Y k) else none

theorem scan_had {X Y : Nat → Int} {k : Nat} {x v : Int} (h : scan X Y k x = some v) (n : Nat) (hk : k ≤ n) : scan X Y n x = some v := by
  induction n with
  | zero => have : k = 0 := by omega
            subst this; exact h
  | succ n ih =>
    by_cases e : k = n + 1
    · subst e; exact h
    · simp only [scan, ih (by omega)]

theorem scan_none {X Y : Nat → Int} {k n : Nat} {x : Int} (h : scan X Y n x = none) (hk : k ≤ n) : scan X Y k x = none := by
  cases e : scan X Y k x with
  | none => rfl
  | some v => rw [scan_had e n hk] at h; cases h

theorem scan_hit {X Y : Nat → Int} {k : Nat} {x : Int} (h : scan X Y k x = none) (e : X k = x) : scan X Y (k + 1) x = some (Y k) := by
  simp only [scan, h, if_pos e]

theorem scan_miss {X Y : Nat → Int} {k : Nat} {x : Int} (h : scan X Y k x = none) (e : ¬ X k = x) : scan X Y (k + 1) x = none := by
  simp only [scan, h, if_neg e]

theorem scan_congr {X Y X' Y' : Nat → Int} (n : Nat) (h : ∀ j, j < n → X j = X' j ∧ Y j = Y' j) (x : Int) : scan X Y n x = scan X' Y' n x := by
  induction n with
  | zero => rfl
  | succ n ih =>
    simp only [scan, ih (fun j hj => h j (by omega)), (h n (by omega)).1, (h n (by omega)).2]

/-- What is remembered behind one more add. -/
def more (G : Int → Option Int) (x l : Int) (y : Int) : Option Int :=
  match G y with
  | some v => some v
  | none => if x = y then some l else none

theorem scan_more (X Y : Nat → Int) (k : Nat) (y : Int) : scan X Y (k + 1) y = more (scan X Y k) (X k) (Y k) y := rfl

theorem more_had {G : Int → Option Int} {x l v : Int} (h : G x = some v) (y : Int) : more G x l y = G y := by
  unfold more
  cases e : G y with
  | some u => rfl
  | none =>
    by_cases e2 : x = y
    · subst e2; rw [h] at e; cases e
    · simp [e2]

/-- The listed ones first, then those of the map. -/
def both (A B : Int → Option Int) (y : Int) : Option Int :=
  match A y with
  | some v => some v
  | none => B y

end Go.Proofs.Qxb6602447a.T
