/-
  THE PLAIN SIDE OF THE SELECTION TREE: no Go in sight. Definition i has 'm i' selections; the selections of all definitions are numbered one definition behind the other.
-/
namespace Go.Proofs.Qxb6602394a.T
set_option linter.unusedVariables false

/-- The number of selections of the definitions before i. -/
def first (m : Nat → Nat) : Nat → Nat
  | 0 => 0
  | i + 1 => first m i + m i

theorem first_le {m : Nat → Nat} {B : Nat} : ∀ n, (∀ i, i < n → m i ≤ B) → first m n ≤ n * B
  | 0, _ => by simp [first]
  | n + 1, h => by
    have := first_le n (fun i hi => h i (by omega))
    have h2 := h n (by omega)
    show first m n + m n ≤ (n + 1) * B
    rw [Nat.succ_mul]; omega

/-- What b1DefsWellFormed tells of one definition. -/
def DefOk (m2 m3 m4 : Nat → Nat) (v : Nat → Nat → Int) (i : Nat) : Prop := m3 i = m2 i ∧ m4 i = m2 i ∧ ∀ j, j < m2 i → v i j < (m2 i : Int)

/-- What b1DefsWellFormed tells of a document. -/
structure DocOk (n0 n1 n2 n3 n4 : Nat) (m2 m3 m4 : Nat → Nat) (v : Nat → Nat → Int) : Prop where
  e1 : n1 = n0
  e2 : n2 = n0
  e3 : n3 = n0
  e4 : n4 = n0
  each : ∀ i, i < n0 → DefOk m2 m3 m4 v i
  all : first m2 n0 ≤ 4096

theorem first_succ (m : Nat → Nat) (i : Nat) : first m (i + 1) = first m i + m i := rfl

theorem first_mono {m : Nat → Nat} {i j : Nat} (h : i ≤ j) : first m i ≤ first m j := by
  induction j with
  | zero => have : i = 0 := by omega
            subst this; exact Nat.le_refl _
  | succ j ih =>
    by_cases e : i = j + 1
    · subst e; exact Nat.le_refl _
    · have := ih (by omega)
      rw [first_succ]; omega

/-- The definition, among the first n, that owns selection x. -/
def own (m : Nat → Nat) : Nat → Nat → Nat
  | 0, _ => 0
  | n + 1, x => if x < first m n then own m n x else n

theorem own_eq {m : Nat → Nat} : ∀ (n i j : Nat), i < n → j < m i → own m n (first m i + j) = i
  | 0, i, j, hi, _ => by omega
  | n + 1, i, j, hi, hj => by
    unfold own
    by_cases e : i = n
    · subst e
      rw [if_neg (by omega)]
    · have h1 : first m (i + 1) ≤ first m n := first_mono (by omega)
      rw [first_succ] at h1
      rw [if_pos (by omega)]
      exact own_eq n i j (by omega) hj

/-- Its place there. -/
def loc (m : Nat → Nat) (n x : Nat) : Nat := x - first m (own m n x)

theorem loc_eq {m : Nat → Nat} {n i j : Nat} (hi : i < n) (hj : j < m i) : loc m n (first m i + j) = j := by
  unfold loc
  rw [own_eq n i j hi hj]; omega

theorem own_lt {m : Nat → Nat} : ∀ (n x : Nat), x < first m n → own m n x < n ∧ first m (own m n x) ≤ x ∧ x < first m (own m n x + 1)
  | 0, x, h => by simp [first] at h
  | n + 1, x, h => by
    unfold own
    by_cases e : x < first m n
    · rw [if_pos e]
      obtain ⟨h1, h2, h3⟩ := own_lt n x e
      exact ⟨by omega, h2, h3⟩
    · rw [if_neg e]
      exact ⟨by omega, by omega, h⟩

theorem loc_lt {m : Nat → Nat} {n x : Nat} (h : x < first m n) : loc m n x < m (own m n x) ∧ first m (own m n x) + loc m n x = x := by
  obtain ⟨h1, h2, h3⟩ := own_lt n x h
  rw [first_succ] at h3
  unfold loc
  omega

theorem place_lt {m : Nat → Nat} {n i j : Nat} (hi : i < n) (hj : j < m i) : first m i + j < first m n := by
  have := first_mono (m := m) (show i + 1 ≤ n by omega)
  rw [first_succ] at this
  omega

/-- Of the first p definitions the first that is a fragment named s. -/
def fragIx (fb : Nat → Bool) (nm : Nat → ByteArray) : Nat → ByteArray → Option Nat
  | 0, _ => none
  | p + 1, s => match fragIx fb nm p s with
    | some d => some d
    | none => if fb p = true ∧ nm p = s then some p else none

theorem fragIx_lt {fb : Nat → Bool} {nm : Nat → ByteArray} {s : ByteArray} {d : Nat} : ∀ p, fragIx fb nm p s = some d → d < p ∧ fb d = true ∧ nm d = s
  | 0, h => by cases h
  | p + 1, h => by
    unfold fragIx at h
    cases hp : fragIx fb nm p s with
    | some d' =>
      rw [hp] at h
      obtain rfl := Option.some.inj h
      obtain ⟨h1, h2⟩ := fragIx_lt p hp
      exact ⟨by omega, h2⟩
    | none =>
      rw [hp] at h
      simp only at h
      by_cases e : fb p = true ∧ nm p = s
      · rw [if_pos e] at h
        obtain rfl := Option.some.inj h
        exact ⟨by omega, e⟩
      · rw [if_neg e] at h; cases h

theorem fragIx_none {fb : Nat → Bool} {nm : Nat → ByteArray} {s : ByteArray} : ∀ p, fragIx fb nm p s = none → ∀ d, d < p → ¬ (fb d = true ∧ nm d = s)
  | 0, _, d, hd => by omega
  | p + 1, h, d, hd => by
    unfold fragIx at h
    cases hp : fragIx fb nm p s with
    | some d' => rw [hp] at h; cases h
    | none =>
      rw [hp] at h
      simp only at h
      by_cases e : fb p = true ∧ nm p = s
      · rw [if_pos e] at h; cases h
      · by_cases ed : d = p
        · subst ed; exact e
        · exact fragIx_none p hp d (by omega)

theorem fragIx_same {fb : Nat → Bool} {nm : Nat → ByteArray} {s : ByteArray} {p : Nat} (h : ¬ (fb p = true ∧ nm p = s)) : fragIx fb nm (p + 1) s = fragIx fb nm p s := by
  show (match fragIx fb nm p s with | some d => some d | none => if fb p = true ∧ nm p = s then some p else none) = _
  cases fragIx fb nm p s with
  | some d => rfl
  | none => simp only [if_neg h]

theorem fragIx_had {fb : Nat → Bool} {nm : Nat → ByteArray} {s : ByteArray} {p d : Nat} (h : fragIx fb nm p s = some d) : fragIx fb nm (p + 1) s = some d := by
  show (match fragIx fb nm p s with | some d => some d | none => if fb p = true ∧ nm p = s then some p else none) = _
  rw [h]

theorem fragIx_new {fb : Nat → Bool} {nm : Nat → ByteArray} {p : Nat} (h : fragIx fb nm p (nm p) = none) (hf : fb p = true) : fragIx fb nm (p + 1) (nm p) = some p := by
  show (match fragIx fb nm p (nm p) with | some d => some d | none => if fb p = true ∧ nm p = nm p then some p else none) = _
  rw [h]
  simp [hf]

/-- Of the first p definitions the first fragment of a name is found by its being the first in all n. -/
theorem fragIx_up {fb : Nat → Bool} {nm : Nat → ByteArray} {s : ByteArray} {d p : Nat} (h : fragIx fb nm p s = some d) : ∀ n, p ≤ n → fragIx fb nm n s = some d
  | 0, hn => by
    have : p = 0 := by omega
    subst this; exact h
  | n + 1, hn => by
    by_cases e : p = n + 1
    · subst e; exact h
    · exact fragIx_had (fragIx_up h n (by omega))

/-- The index of the fragment of a name, as far as the first c definitions tell it. -/
def idxTo (fb : Nat → Bool) (nm : Nat → ByteArray) (n c : Nat) (s : ByteArray) : Option Nat :=
  match fragIx fb nm n s with
  | some d => if d < c then some d else none
  | none => none

theorem idxTo_zero (fb : Nat → Bool) (nm : Nat → ByteArray) (n : Nat) (s : ByteArray) : idxTo fb nm n 0 s = none := by
  unfold idxTo; split <;> simp

theorem idxTo_all (fb : Nat → Bool) (nm : Nat → ByteArray) (n : Nat) (s : ByteArray) : idxTo fb nm n n s = fragIx fb nm n s := by
  unfold idxTo
  cases h : fragIx fb nm n s with
  | none => rfl
  | some d => simp only [if_pos (fragIx_lt n h).1]

theorem idxTo_other {fb : Nat → Bool} {nm : Nat → ByteArray} {n c : Nat} {s : ByteArray} (h : fragIx fb nm n s ≠ some c) : idxTo fb nm n (c + 1) s = idxTo fb nm n c s := by
  unfold idxTo
  cases hd : fragIx fb nm n s with
  | none => rfl
  | some d =>
    have : d ≠ c := fun e => h (by rw [hd, e])
    simp only
    by_cases e : d < c
    · rw [if_pos e, if_pos (by omega)]
    · rw [if_neg e, if_neg (by omega)]

theorem idxTo_here {fb : Nat → Bool} {nm : Nat → ByteArray} {n c : Nat} {s : ByteArray} (h : fragIx fb nm n s = some c) : idxTo fb nm n (c + 1) s = some c := by
  unfold idxTo
  rw [h]
  simp

/-- Of the first c selections, those at the root of definition d. -/
def rootsTo (m : Nat → Nat) (par : Nat → Nat → Int) (n c d : Nat) : List Nat :=
  (List.range c).filter fun x => decide (own m n x = d ∧ par d (loc m n x) < 0)

/-- Of the first c selections, those whose parent is y. -/
def kidsTo (m : Nat → Nat) (par : Nat → Nat → Int) (n c y : Nat) : List Nat :=
  (List.range c).filter fun x => decide (own m n x = own m n y ∧ par (own m n y) (loc m n x) = (loc m n y : Int))

theorem filter_succ (f : Nat → Bool) (c : Nat) : (List.range (c + 1)).filter f = (List.range c).filter f ++ if f c = true then [c] else [] := by
  rw [List.range_succ, List.filter_append]
  by_cases h : f c = true <;> simp [h]

/-- The n lists of roots and, behind them, the lists of children. -/
def listsTo (m : Nat → Nat) (par : Nat → Nat → Int) (n c k : Nat) : List Nat :=
  if k < n then rootsTo m par n c k else kidsTo m par n c (k - n)

theorem listsTo_zero (m : Nat → Nat) (par : Nat → Nat → Int) (n k : Nat) : listsTo m par n 0 k = [] := by
  unfold listsTo rootsTo kidsTo; split <;> rfl

theorem listsTo_length (m : Nat → Nat) (par : Nat → Nat → Int) (n c k : Nat) : (listsTo m par n c k).length ≤ c := by
  unfold listsTo rootsTo kidsTo
  split <;> exact Nat.le_trans (List.length_filter_le _ _) (by simp)

/-- Selection (i, j) goes into one list alone: the roots of i where its parent is negative .. -/
theorem listsTo_root {m : Nat → Nat} {par : Nat → Nat → Int} {n i j : Nat} (hi : i < n) (hj : j < m i) (hp : par i j < 0) (k : Nat) (hk : k < n + first m n) :
    listsTo m par n (first m i + j + 1) k = if k = i then listsTo m par n (first m i + j) k ++ [first m i + j] else listsTo m par n (first m i + j) k := by
  have ho := own_eq (m := m) n i j hi hj
  have hl := loc_eq (m := m) hi hj
  unfold listsTo
  by_cases e : k < n
  · rw [if_pos e, if_pos e]
    unfold rootsTo
    rw [filter_succ]
    by_cases ek : k = i
    · subst ek; simp [ho, hl, hp]
    · rw [if_neg ek, if_neg (by simp only [ho, hl, decide_eq_true_eq]; omega)]; simp
  · rw [if_neg e, if_neg e, if_neg (by omega)]
    unfold kidsTo
    rw [filter_succ, if_neg]
    · simp
    · simp only [ho, hl, decide_eq_true_eq]
      rintro ⟨h1, h2⟩
      rw [← h1] at h2
      omega

/-- .. else the children of its parent. -/
theorem listsTo_kid {m : Nat → Nat} {par : Nat → Nat → Int} {n i j p : Nat} (hi : i < n) (hj : j < m i) (hp : par i j = (p : Int)) (hpm : p < m i) (k : Nat) (hk : k < n + first m n) :
    listsTo m par n (first m i + j + 1) k = if k = n + (first m i + p) then listsTo m par n (first m i + j) k ++ [first m i + j] else listsTo m par n (first m i + j) k := by
  have ho := own_eq (m := m) n i j hi hj
  have hl := loc_eq (m := m) hi hj
  unfold listsTo
  by_cases e : k < n
  · rw [if_pos e, if_pos e, if_neg (by omega)]
    unfold rootsTo
    rw [filter_succ, if_neg]
    · simp
    · simp only [ho, hl, decide_eq_true_eq]
      rintro ⟨h1, h2⟩
      rw [← h1, hp] at h2
      omega
  · rw [if_neg e, if_neg e]
    unfold kidsTo
    rw [filter_succ]
    by_cases ek : k = n + (first m i + p)
    · subst ek
      have hk' : n + (first m i + p) - n = first m i + p := by omega
      rw [if_pos rfl, hk', own_eq n i p hi hpm, loc_eq hi hpm, if_pos]
      simp only [ho, hl, hp, decide_eq_true_eq, and_self]
    · rw [if_neg ek, if_neg]
      · simp
      · simp only [ho, hl, decide_eq_true_eq]
        rintro ⟨h1, h2⟩
        have hy : k - n < first m n := by omega
        obtain ⟨h3, h4⟩ := loc_lt hy
        rw [← h1] at h2 h3 h4
        rw [hp] at h2
        omega

end Go.Proofs.Qxb6602394a.T
