/-
  THE PLAIN SIDE OF reachOf: no Go in sight. A stack of sets, the top first; 'Go rest stack st fin k': with the rest of a set and a stack of sets to go through, the state st ends as fin in k steps.
-/
namespace Go.Proofs.Qxb6602394a.T
set_option linter.unusedVariables false

/-- What is counted: the fields, how many are held, the fields that have a set; which slots are entered. -/
structure St where
  fields : List Nat
  held : Nat
  ws : List Nat
  ent : Nat → Bool

/-- A selection that is a field. -/
def takeF (hl : Nat → List Nat) (x : Nat) (st : St) : St := { st with fields := st.fields ++ [x], ws := if hl x = [] then st.ws else st.ws ++ [x] }
/-- A spread or inline fragment: what it holds is counted. -/
def takeH (hl : Nat → List Nat) (x : Nat) (st : St) : St := { st with held := st.held + (hl x).length }
/-- A slot entered. -/
def enter (d : Nat) (st : St) : St := { st with ent := fun k => if k = d then true else st.ent k }

/-- The slot of a spread: its fragment's, or the last. -/
def slotOf (fr : Nat → Option Nat) (n x : Nat) : Nat := match fr x with | some d => d | none => n

/-- With the rest r of a set and a stack T of sets, the state st ends as fin in k steps. -/
def GoesIn (n : Nat) (isF sp : Nat → Bool) (fr : Nat → Option Nat) (hl : Nat → List Nat) (fin : St) : Nat → List Nat → List (List Nat) → St → Prop
  | 0, r, T, st => r = [] ∧ T = [] ∧ st = fin
  | k + 1, [], T, st => (∃ s T', T = s :: T' ∧ GoesIn n isF sp fr hl fin k s T' st)
  | k + 1, x :: r, T, st => (isF x = true ∧ GoesIn n isF sp fr hl fin k r T (takeF hl x st)) ∨ (isF x = false ∧ sp x = false ∧ GoesIn n isF sp fr hl fin k r (hl x :: T) (takeH hl x st)) ∨
      (isF x = false ∧ sp x = true ∧ st.ent (slotOf fr n x) = true ∧ GoesIn n isF sp fr hl fin k r T (takeH hl x st)) ∨
      (isF x = false ∧ sp x = true ∧ st.ent (slotOf fr n x) = false ∧ GoesIn n isF sp fr hl fin k r (hl x :: T) (enter (slotOf fr n x) (takeH hl x st)))

def Goes (n : Nat) (isF sp : Nat → Bool) (fr : Nat → Option Nat) (hl : Nat → List Nat) (r : List Nat) (T : List (List Nat)) (st fin : St) (k : Nat) : Prop := GoesIn n isF sp fr hl fin k r T st

section
variable {n : Nat} {isF sp : Nat → Bool} {fr : Nat → Option Nat} {hl : Nat → List Nat}

section
variable {x : Nat} {r s : List Nat} {T : List (List Nat)} {st fin : St} {k : Nat}
theorem Goes.done (st : St) : Goes n isF sp fr hl [] [] st st 0 := ⟨rfl, rfl, rfl⟩
theorem Goes.pop (h : Goes n isF sp fr hl s T st fin k) : Goes n isF sp fr hl [] (s :: T) st fin (k + 1) := ⟨s, T, rfl, h⟩
theorem Goes.field (e : isF x = true) (h : Goes n isF sp fr hl r T (takeF hl x st) fin k) : Goes n isF sp fr hl (x :: r) T st fin (k + 1) := .inl ⟨e, h⟩
theorem Goes.lone (e : isF x = false) (e2 : sp x = false) (h : Goes n isF sp fr hl r (hl x :: T) (takeH hl x st) fin k) : Goes n isF sp fr hl (x :: r) T st fin (k + 1) := .inr (.inl ⟨e, e2, h⟩)
theorem Goes.again (e : isF x = false) (e2 : sp x = true) (e3 : st.ent (slotOf fr n x) = true) (h : Goes n isF sp fr hl r T (takeH hl x st) fin k) : Goes n isF sp fr hl (x :: r) T st fin (k + 1) := .inr (.inr (.inl ⟨e, e2, e3, h⟩))
theorem Goes.anew (e : isF x = false) (e2 : sp x = true) (e3 : st.ent (slotOf fr n x) = false) (h : Goes n isF sp fr hl r (hl x :: T) (enter (slotOf fr n x) (takeH hl x st)) fin k) : Goes n isF sp fr hl (x :: r) T st fin (k + 1) := .inr (.inr (.inr ⟨e, e2, e3, h⟩))

/-- Nothing is left. -/
theorem Goes.ended (h : Goes n isF sp fr hl [] [] st fin k) : st = fin ∧ k = 0 := by
  cases k with
  | zero => exact ⟨h.2.2, rfl⟩
  | succ k => obtain ⟨s, T', e, _⟩ := h; cases e

/-- A set is taken off the stack. -/
theorem Goes.popped (h : Goes n isF sp fr hl [] (s :: T) st fin k) : ∃ k0, k = k0 + 1 ∧ Goes n isF sp fr hl s T st fin k0 := by
  cases k with
  | zero => have := h.2.1; cases this
  | succ k =>
    obtain ⟨s', T', e, h⟩ := h
    cases e
    exact ⟨k, rfl, h⟩

/-- A selection is taken. -/
theorem Goes.taken (h : Goes n isF sp fr hl (x :: r) T st fin k) : ∃ k0, k = k0 + 1 ∧ ((isF x = true ∧ Goes n isF sp fr hl r T (takeF hl x st) fin k0) ∨ (isF x = false ∧ sp x = false ∧ Goes n isF sp fr hl r (hl x :: T) (takeH hl x st) fin k0) ∨
      (isF x = false ∧ sp x = true ∧ st.ent (slotOf fr n x) = true ∧ Goes n isF sp fr hl r T (takeH hl x st) fin k0) ∨
      (isF x = false ∧ sp x = true ∧ st.ent (slotOf fr n x) = false ∧ Goes n isF sp fr hl r (hl x :: T) (enter (slotOf fr n x) (takeH hl x st)) fin k0)) := by
  cases k with
  | zero => have := h.1; cases this
  | succ k => exact ⟨k, rfl, h⟩
end

/-- The ending is one. -/
theorem Goes.det : ∀ {k : Nat} {r : List Nat} {T : List (List Nat)} {st fin fin' : St} {k' : Nat}, Goes n isF sp fr hl r T st fin k → Goes n isF sp fr hl r T st fin' k' → fin = fin' ∧ k = k' := by
  intro k
  induction k with
  | zero =>
    intro r T st fin fin' k' h h'
    obtain ⟨rfl, rfl, rfl⟩ := h
    obtain ⟨h1, h2⟩ := h'.ended
    exact ⟨h1, h2.symm⟩
  | succ k ih =>
    intro r T st fin fin' k' h h'
    cases r with
    | nil =>
      obtain ⟨s, T', rfl, h⟩ := h
      obtain ⟨k0, rfl, hq⟩ := h'.popped
      obtain ⟨h1, h2⟩ := ih h hq
      exact ⟨h1, by omega⟩
    | cons x r =>
      obtain ⟨k0, rfl, hq⟩ := h'.taken
      rcases h with ⟨e, h⟩ | ⟨e, e2, h⟩ | ⟨e, e2, e3, h⟩ | ⟨e, e2, e3, h⟩ <;> rcases hq with ⟨d, g⟩ | ⟨d, d2, g⟩ | ⟨d, d2, d3, g⟩ | ⟨d, d2, d3, g⟩
      all_goals first
        | (obtain ⟨h1, h2⟩ := ih h g; exact ⟨h1, by omega⟩)
        | exact absurd (e.symm.trans d) (by decide)
        | exact absurd (e2.symm.trans d2) (by decide)
        | exact absurd (e3.symm.trans d3) (by decide)

/-- What is below the stack waits. -/
theorem Goes.split : ∀ {k : Nat} {r : List Nat} {T U : List (List Nat)} {st fin : St}, Goes n isF sp fr hl r (T ++ U) st fin k → ∃ mid k1 k2, Goes n isF sp fr hl r T st mid k1 ∧ Goes n isF sp fr hl [] U mid fin k2 ∧ k1 + k2 = k := by
  intro k
  induction k with
  | zero =>
    intro r T U st fin h
    obtain ⟨rfl, e, rfl⟩ := h
    obtain ⟨rfl, rfl⟩ := List.append_eq_nil_iff.1 e
    exact ⟨st, 0, 0, .done st, .done st, rfl⟩
  | succ k ih =>
    intro r T U st fin h
    cases r with
    | nil =>
      cases T with
      | nil => exact ⟨st, 0, k + 1, .done st, h, by omega⟩
      | cons t T =>
        obtain ⟨s, T', e, h⟩ := h
        simp only [List.cons_append, List.cons.injEq] at e
        obtain ⟨rfl, rfl⟩ := e
        obtain ⟨mid, k1, k2, h1, h2, h3⟩ := ih h
        exact ⟨mid, k1 + 1, k2, .pop h1, h2, by omega⟩
    | cons x r =>
      rcases h with ⟨e, h⟩ | ⟨e, e2, h⟩ | ⟨e, e2, e3, h⟩ | ⟨e, e2, e3, h⟩
      · obtain ⟨mid, k1, k2, h1, h2, h3⟩ := ih h
        exact ⟨mid, k1 + 1, k2, .field e h1, h2, by omega⟩
      · obtain ⟨mid, k1, k2, h1, h2, h3⟩ := ih (T := hl x :: T) h
        exact ⟨mid, k1 + 1, k2, .lone e e2 h1, h2, by omega⟩
      · obtain ⟨mid, k1, k2, h1, h2, h3⟩ := ih h
        exact ⟨mid, k1 + 1, k2, .again e e2 e3 h1, h2, by omega⟩
      · obtain ⟨mid, k1, k2, h1, h2, h3⟩ := ih (T := hl x :: T) h
        exact ⟨mid, k1 + 1, k2, .anew e e2 e3 h1, h2, by omega⟩

/-- Each set of the stack takes a step. -/
theorem Goes.stack : ∀ {k : Nat} {r : List Nat} {T : List (List Nat)} {st fin : St}, Goes n isF sp fr hl r T st fin k → T.length + r.length ≤ k := by
  intro k
  induction k with
  | zero =>
    intro r T st fin h
    obtain ⟨rfl, rfl, _⟩ := h
    simp
  | succ k ih =>
    intro r T st fin h
    cases r with
    | nil =>
      obtain ⟨s, T', rfl, h⟩ := h
      have := ih h
      simp only [List.length_cons, List.length_nil]; omega
    | cons x r =>
      rcases h with ⟨e, h⟩ | ⟨e, e2, h⟩ | ⟨e, e2, e3, h⟩ | ⟨e, e2, e3, h⟩
      all_goals (have := ih h; simp only [List.length_cons] at this ⊢; omega)

theorem takeF_fields (x : Nat) (st : St) : (takeF hl x st).fields.length = st.fields.length + 1 := by simp [takeF]
theorem takeF_ws (x : Nat) (st : St) : (takeF hl x st).ws.length ≤ st.ws.length + 1 ∧ st.ws.length ≤ (takeF hl x st).ws.length := by
  unfold takeF
  by_cases e : hl x = [] <;> simp [e]

/-- How far what is counted grows. -/
theorem Goes.grows {N : Nat} (hN : ∀ x, (hl x).length ≤ N) : ∀ {k : Nat} {r : List Nat} {T : List (List Nat)} {st fin : St}, Goes n isF sp fr hl r T st fin k →
    fin.fields.length ≤ st.fields.length + k ∧ fin.ws.length ≤ st.ws.length + k ∧ fin.held ≤ st.held + k * N := by
  intro k
  induction k with
  | zero =>
    intro r T st fin h
    obtain ⟨_, _, rfl⟩ := h
    simp
  | succ k ih =>
    intro r T st fin h
    cases r with
    | nil =>
      obtain ⟨s, T', rfl, h⟩ := h
      have := ih h
      rw [Nat.succ_mul]; omega
    | cons x r =>
      have hx := hN x
      rw [Nat.succ_mul]
      rcases h with ⟨e, h⟩ | ⟨e, e2, h⟩ | ⟨e, e2, e3, h⟩ | ⟨e, e2, e3, h⟩
      · have := ih h
        have h1 := takeF_fields (hl := hl) x st
        have h2 := takeF_ws (hl := hl) x st
        have h3 : (takeF hl x st).held = st.held := rfl
        omega
      · have := ih h
        have h1 : (takeH hl x st).fields = st.fields := rfl
        have h2 : (takeH hl x st).ws = st.ws := rfl
        have h3 : (takeH hl x st).held = st.held + (hl x).length := rfl
        rw [h1, h2, h3] at this
        omega
      · have := ih h
        have h1 : (takeH hl x st).fields = st.fields := rfl
        have h2 : (takeH hl x st).ws = st.ws := rfl
        have h3 : (takeH hl x st).held = st.held + (hl x).length := rfl
        rw [h1, h2, h3] at this
        omega
      · have := ih h
        have h1 : (enter (slotOf fr n x) (takeH hl x st)).fields = st.fields := rfl
        have h2 : (enter (slotOf fr n x) (takeH hl x st)).ws = st.ws := rfl
        have h3 : (enter (slotOf fr n x) (takeH hl x st)).held = st.held + (hl x).length := rfl
        rw [h1, h2, h3] at this
        omega

/-- What is counted does not fall. -/
theorem Goes.mono : ∀ {k : Nat} {r : List Nat} {T : List (List Nat)} {st fin : St}, Goes n isF sp fr hl r T st fin k →
    st.fields.length ≤ fin.fields.length ∧ st.ws.length ≤ fin.ws.length ∧ st.held ≤ fin.held := by
  intro k
  induction k with
  | zero =>
    intro r T st fin h
    obtain ⟨_, _, rfl⟩ := h
    simp
  | succ k ih =>
    intro r T st fin h
    cases r with
    | nil =>
      obtain ⟨s, T', rfl, h⟩ := h
      exact ih h
    | cons x r =>
      rcases h with ⟨e, h⟩ | ⟨e, e2, h⟩ | ⟨e, e2, e3, h⟩ | ⟨e, e2, e3, h⟩
      · have := ih h
        have h1 := takeF_fields (hl := hl) x st
        have h2 := takeF_ws (hl := hl) x st
        have h3 : (takeF hl x st).held = st.held := rfl
        omega
      · have := ih h
        have h3 : (takeH hl x st).held = st.held + (hl x).length := rfl
        exact ⟨this.1, this.2.1, by omega⟩
      · have := ih h
        have h3 : (takeH hl x st).held = st.held + (hl x).length := rfl
        exact ⟨this.1, this.2.1, by omega⟩
      · have := ih h
        have h3 : (enter (slotOf fr n x) (takeH hl x st)).held = st.held + (hl x).length := rfl
        exact ⟨this.1, this.2.1, by omega⟩

end

/-- The sum of f over the numbers below N. -/
def sumTo (f : Nat → Nat) : Nat → Nat
  | 0 => 0
  | N + 1 => sumTo f N + f N

theorem sumTo_le {f g : Nat → Nat} : ∀ N, (∀ y, y < N → f y ≤ g y) → sumTo f N ≤ sumTo g N
  | 0, _ => Nat.le_refl _
  | N + 1, h => by
    have h1 := sumTo_le N (fun y hy => h y (by omega))
    have h2 := h N (by omega)
    show sumTo f N + f N ≤ sumTo g N + g N
    omega

theorem sumTo_lt {f g : Nat → Nat} {x : Nat} : ∀ N, x < N → (∀ y, y < N → f y ≤ g y) → f x + 1 ≤ g x → sumTo f N + 1 ≤ sumTo g N
  | 0, hx, _, _ => by omega
  | N + 1, hx, h, hs => by
    show sumTo f N + f N + 1 ≤ sumTo g N + g N
    by_cases e : x = N
    · subst e
      have := sumTo_le x (fun y hy => h y (by omega))
      omega
    · have h1 := sumTo_lt N (by omega) (fun y hy => h y (by omega)) hs
      have h2 := h N (by omega)
      omega

theorem sumTo_const (c N : Nat) : sumTo (fun _ => c) N = N * c := by
  induction N with
  | zero => simp [sumTo]
  | succ N ih => show sumTo (fun _ => c) N + c = _; rw [ih, Nat.succ_mul]

theorem sumTo_zero {f : Nat → Nat} : ∀ N, (∀ y, y < N → f y = 0) → sumTo f N = 0
  | 0, _ => rfl
  | N + 1, h => by
    show sumTo f N + f N = 0
    rw [sumTo_zero N (fun y hy => h y (by omega)), h N (by omega)]

theorem sumTo_congr {f g : Nat → Nat} : ∀ N, (∀ y, y < N → f y = g y) → sumTo f N = sumTo g N
  | 0, _ => rfl
  | N + 1, h => by
    show sumTo f N + f N = sumTo g N + g N
    rw [sumTo_congr N (fun y hy => h y (by omega)), h N (by omega)]

theorem sumTo_add (f g : Nat → Nat) : ∀ N, sumTo (fun y => f y + g y) N = sumTo f N + sumTo g N
  | 0 => rfl
  | N + 1 => by
    show sumTo (fun y => f y + g y) N + (f N + g N) = sumTo f N + f N + (sumTo g N + g N)
    rw [sumTo_add f g N]; omega

theorem sumTo_swap (f : Nat → Nat → Nat) (N : Nat) : ∀ M, sumTo (fun z => sumTo (f z) N) M = sumTo (fun y => sumTo (fun z => f z y) M) N
  | 0 => by
    show 0 = _
    exact (sumTo_zero N (fun y _ => rfl)).symm
  | M + 1 => by
    show sumTo (fun z => sumTo (f z) N) M + sumTo (f M) N = _
    rw [sumTo_swap f N M, ← sumTo_add]
    exact sumTo_congr N (fun y _ => rfl)

/-- At most one of them. -/
theorem sumTo_one {f : Nat → Nat} {y : Nat} : ∀ N, (∀ z, z < N → z ≠ y → f z = 0) → f y ≤ 1 → sumTo f N ≤ 1
  | 0, _, _ => by simp [sumTo]
  | N + 1, h, h1 => by
    show sumTo f N + f N ≤ 1
    by_cases e : N = y
    · subst e
      rw [sumTo_zero N (fun z hz => h z (by omega) (by omega))]; omega
    · rw [h N (by omega) e]
      exact sumTo_one N (fun z hz => h z (by omega)) h1

/-- One of them changed. -/
theorem sumTo_drop {f g : Nat → Nat} {x : Nat} : ∀ N, x < N → (∀ y, y ≠ x → g y = f y) → g x = 0 → sumTo g N + f x = sumTo f N
  | 0, hx, _, _ => by omega
  | N + 1, hx, h, hg => by
    show sumTo g N + g N + f x = sumTo f N + f N
    by_cases e : x = N
    · subst e
      rw [hg, sumTo_congr x (fun y hy => h y (by omega))]; omega
    · have := sumTo_drop N (by omega) h hg
      rw [h N (fun e' => e e'.symm)]; omega

/-- The sum over those of a range that are chosen. -/
theorem sum_filter (p : Nat → Bool) (f : Nat → Nat) : ∀ N, (((List.range N).filter p).map f).sum = sumTo (fun z => if p z = true then f z else 0) N
  | 0 => rfl
  | N + 1 => by
    rw [List.range_succ, List.filter_append, List.map_append, List.sum_append, sum_filter p f N]
    show _ = sumTo (fun z => if p z = true then f z else 0) N + (if p N = true then f N else 0)
    by_cases e : p N = true <;> simp [e]

section
variable (N : Nat) (pa : Nat → Option Nat)

/-- Is z y or above it? -/
def above (z : Nat) : Nat → Nat → Nat
  | 0, _ => 0
  | f + 1, y => if z = y then 1 else match pa y with
    | some p => above z f p
    | none => 0

variable {pa}
theorem above_gt (hp : ∀ y p, pa y = some p → p < y) (z : Nat) : ∀ f y, y < z → above pa z f y = 0
  | 0, _, _ => rfl
  | f + 1, y, h => by
    unfold above
    rw [if_neg (by omega)]
    cases e : pa y with
    | none => rfl
    | some p => exact above_gt hp z f p (by have := hp y p e; omega)

theorem above_fuel (hp : ∀ y p, pa y = some p → p < y) (z : Nat) : ∀ f y, y < f → ∀ f', f ≤ f' → above pa z f' y = above pa z f y
  | 0, y, h, _, _ => by omega
  | f + 1, y, h, f', hf => by
    obtain ⟨f', rfl⟩ : ∃ g, f' = g + 1 := ⟨f' - 1, by omega⟩
    unfold above
    by_cases e : z = y
    · rw [if_pos e, if_pos e]
    · rw [if_neg e, if_neg e]
      cases e2 : pa y with
      | none => rfl
      | some p => exact above_fuel hp z f p (by have := hp y p e2; omega) f' (by omega)

theorem above_le (z : Nat) : ∀ f y, above pa z f y ≤ 1
  | 0, _ => by simp [above]
  | f + 1, y => by
    unfold above
    by_cases e : z = y
    · rw [if_pos e]; exact Nat.le_refl _
    · rw [if_neg e]
      cases pa y with
      | none => simp
      | some p => exact above_le z f p

theorem above_self (x f : Nat) : above pa x (f + 1) x = 1 := by unfold above; rw [if_pos rfl]

/-- Of the kids of x at most one is y or above it, and then x is above it. -/
theorem kids_above (hp : ∀ y p, pa y = some p → p < y) (x : Nat) : ∀ f y, y < f → sumTo (fun z => if decide (pa z = some x) = true then above pa z f y else 0) N ≤ (if x = y then 0 else above pa x f y)
  | 0, y, h => by omega
  | f + 1, y, h => by
    by_cases exy : x = y
    · subst exy
      rw [if_pos rfl]
      refine Nat.le_of_eq (sumTo_zero N (fun z _ => ?_))
      by_cases e : pa z = some x
      · rw [if_pos (by simpa using e)]
        exact above_gt hp z _ _ (hp z x e)
      · rw [if_neg (by simpa using e)]
    · rw [if_neg exy]
      by_cases ey : pa y = some x
      · have hxy := hp y x ey
        have h1 : above pa x (f + 1) y = 1 := by
          unfold above
          rw [if_neg exy, ey]
          obtain ⟨f, rfl⟩ : ∃ g, f = g + 1 := ⟨f - 1, by omega⟩
          exact above_self x f
        rw [h1]
        refine sumTo_one (y := y) N (fun z _ hz => ?_) (by split; exact above_le _ _ _; omega)
        by_cases e : pa z = some x
        · rw [if_pos (by simpa using e)]
          unfold above
          rw [if_neg hz, ey]
          exact above_gt hp z _ _ (hp z x e)
        · rw [if_neg (by simpa using e)]
      · cases e2 : pa y with
        | none =>
          rw [show above pa x (f + 1) y = 0 by unfold above; rw [if_neg exy, e2]]
          refine Nat.le_of_eq (sumTo_zero N (fun z _ => ?_))
          by_cases e : pa z = some x
          · rw [if_pos (by simpa using e)]
            unfold above
            rw [if_neg (fun h => by subst h; exact ey e), e2]
          · rw [if_neg (by simpa using e)]
        | some p =>
          have ih := kids_above hp x f p (by have := hp y p e2; omega)
          rw [if_neg (fun h => by subst h; exact ey e2)] at ih
          rw [show above pa x (f + 1) y = above pa x f p by rw [above]; simp only [e2, if_neg exy]]
          refine Nat.le_trans (Nat.le_of_eq (sumTo_congr N (fun z _ => ?_))) ih
          by_cases e : pa z = some x
          · rw [if_pos (by simpa using e), if_pos (by simpa using e)]
            rw [above]
            simp only [if_neg (show ¬ z = y from fun h => by subst h; exact ey e), e2]
          · rw [if_neg (by simpa using e), if_neg (by simpa using e)]

/-- Of those at the top at most one is y or above it. -/
theorem tops_above (hp : ∀ y p, pa y = some p → p < y) (q : Nat → Bool) (hq : ∀ z, q z = true → pa z = none) : ∀ f y, sumTo (fun z => if q z = true then above pa z f y else 0) N ≤ 1
  | 0, y => by
    refine Nat.le_trans (Nat.le_of_eq (sumTo_zero N (fun z _ => ?_))) (by omega)
    split <;> rfl
  | f + 1, y => by
    cases e2 : pa y with
    | none =>
      refine sumTo_one (y := y) N (fun z _ hz => ?_) (by split; exact above_le _ _ _; omega)
      by_cases e : q z = true
      · rw [if_pos e]
        unfold above
        rw [if_neg hz, e2]
      · rw [if_neg e]
    | some p =>
      refine Nat.le_trans (Nat.le_of_eq (sumTo_congr N (fun z _ => ?_))) (tops_above hp q hq f p)
      by_cases e : q z = true
      · rw [if_pos e, if_pos e]
        rw [above]
        have : ¬ z = y := fun h => by subst h; rw [hq z e] at e2; cases e2
        simp only [if_neg this, e2]
      · rw [if_neg e, if_neg e]

variable (pa)
/-- How many are x or below it. -/
def size (x : Nat) : Nat := sumTo (fun y => above pa x N y) N
variable {pa}

theorem size_kids (hp : ∀ y p, pa y = some p → p < y) {x : Nat} (hx : x < N) : 1 + (((List.range N).filter (fun z => decide (pa z = some x))).map (size N pa)).sum ≤ size N pa x := by
  rw [sum_filter]
  have : (fun z => if decide (pa z = some x) = true then size N pa z else 0) = fun z => sumTo (fun y => if decide (pa z = some x) = true then above pa z N y else 0) N := by
    funext z
    by_cases e : pa z = some x
    · simp [e, size]
    · simp only [e, decide_false, Bool.false_eq_true, if_false]
      exact (sumTo_zero N (fun _ _ => rfl)).symm
  rw [this, sumTo_swap (fun z y => if decide (pa z = some x) = true then above pa z N y else 0) N N, Nat.add_comm]
  refine sumTo_lt (x := x) N hx (fun y hy => ?_) ?_
  · refine Nat.le_trans (kids_above N hp x N y hy) ?_
    split
    · omega
    · exact Nat.le_refl _
  · have h1 := kids_above N hp x N x hx
    rw [if_pos rfl] at h1
    obtain ⟨M, rfl⟩ : ∃ M, N = M + 1 := ⟨N - 1, by omega⟩
    rw [above_self]
    omega

theorem size_tops (hp : ∀ y p, pa y = some p → p < y) (q : Nat → Bool) (hq : ∀ z, q z = true → pa z = none) : (((List.range N).filter q).map (size N pa)).sum ≤ N := by
  rw [sum_filter]
  have : (fun z => if q z = true then size N pa z else 0) = fun z => sumTo (fun y => if q z = true then above pa z N y else 0) N := by
    funext z
    by_cases e : q z = true
    · simp [e, size]
    · simp only [e]
      exact (sumTo_zero N (fun _ _ => rfl)).symm
  rw [this, sumTo_swap (fun z y => if q z = true then above pa z N y else 0) N N]
  refine Nat.le_trans (sumTo_le N (g := fun _ => 1) (fun y hy => tops_above N hp q hq N y)) ?_
  rw [sumTo_const]; omega

theorem size_le (x : Nat) : size N pa x ≤ N := by
  refine Nat.le_trans (sumTo_le N (g := fun _ => 1) (fun y hy => above_le _ _ _)) ?_
  rw [sumTo_const]; omega

end

/-- What a set may cost. -/
def cost (wt : Nat → Nat) (s : List Nat) : Nat := 1 + (s.map wt).sum
/-- What a stack may cost. -/
def costs (wt : Nat → Nat) (T : List (List Nat)) : Nat := (T.map (cost wt)).sum
/-- What the slots that are not entered may cost. -/
def open_ (wt : Nat → Nat) (rt : Nat → List Nat) (n : Nat) (ent : Nat → Bool) : Nat := sumTo (fun d => if ent d = true then 0 else cost wt (rt d)) n

/-- It ends. -/
theorem Goes.ends {n N : Nat} {isF sp : Nat → Bool} {fr : Nat → Option Nat} {hl rt : Nat → List Nat} {wt : Nat → Nat} (w1 : ∀ x, x < N → 1 ≤ wt x) (hfr : ∀ x d, fr x = some d → d < n ∧ hl x = rt d) (hk : ∀ x, x < N → (sp x = false ∨ fr x = none) → cost wt (hl x) < wt x) (hin : ∀ x y, y ∈ hl x → y < N) :
    ∀ (P : Nat) (r : List Nat) (T : List (List Nat)) (st : St), (r.map wt).sum + costs wt T + open_ wt rt n st.ent ≤ P → (∀ x, x ∈ r → x < N) → (∀ s, s ∈ T → ∀ x, x ∈ s → x < N) → ∃ fin k, Goes n isF sp fr hl r T st fin k ∧ k ≤ P := by
  intro P
  induction P with
  | zero =>
    intro r T st hP hr hT
    cases r with
    | cons x r =>
      have := w1 x (hr x (by simp))
      simp only [List.map_cons, List.sum_cons] at hP
      omega
    | nil =>
      cases T with
      | nil => exact ⟨st, 0, Goes.done st, Nat.le_refl _⟩
      | cons s T =>
        simp only [costs, List.map_cons, List.sum_cons, cost] at hP
        omega
  | succ P ih =>
    intro r T st hP hr hT
    cases r with
    | nil =>
      cases T with
      | nil => exact ⟨st, 0, Goes.done st, by omega⟩
      | cons s T =>
        obtain ⟨fin, k, h, hk'⟩ := ih s T st (by simp only [costs, List.map_cons, List.sum_cons, cost, List.map_nil, List.sum_nil] at hP ⊢; omega) (hT s (by simp)) (fun s' hs' => hT s' (by simp [hs']))
        exact ⟨fin, k + 1, Goes.pop h, by omega⟩
    | cons x r =>
      have hx := hr x (by simp)
      have hwx := w1 x hx
      have hr' : ∀ y, y ∈ r → y < N := fun y hy => hr y (by simp [hy])
      have hT' : ∀ s, s ∈ hl x :: T → ∀ y, y ∈ s → y < N := fun s hs y hy => by
        rcases List.mem_cons.1 hs with rfl | hs
        · exact hin x y hy
        · exact hT s hs y hy
      simp only [List.map_cons, List.sum_cons] at hP
      cases eF : isF x with
      | true =>
        obtain ⟨fin, k, h, hk'⟩ := ih r T (takeF hl x st) (by show _ + _ + open_ wt rt n st.ent ≤ P; omega) hr' hT
        exact ⟨fin, k + 1, Goes.field eF h, by omega⟩
      | false =>
        cases eS : sp x with
        | false =>
          have := hk x hx (.inl eS)
          obtain ⟨fin, k, h, hk'⟩ := ih r (hl x :: T) (takeH hl x st) (by show _ + _ + open_ wt rt n st.ent ≤ P; simp only [costs, List.map_cons, List.sum_cons] at hP ⊢; omega) hr' hT'
          exact ⟨fin, k + 1, Goes.lone eF eS h, by omega⟩
        | true =>
          cases eE : st.ent (slotOf fr n x) with
          | true =>
            obtain ⟨fin, k, h, hk'⟩ := ih r T (takeH hl x st) (by show _ + _ + open_ wt rt n st.ent ≤ P; omega) hr' hT
            exact ⟨fin, k + 1, Goes.again eF eS eE h, by omega⟩
          | false =>
            obtain ⟨fin, k, h, hk'⟩ := ih r (hl x :: T) (enter (slotOf fr n x) (takeH hl x st)) (by
              show _ + _ + open_ wt rt n (fun k => if k = slotOf fr n x then true else st.ent k) ≤ P
              simp only [costs, List.map_cons, List.sum_cons] at hP ⊢
              cases ef : fr x with
              | none =>
                have hc := hk x hx (.inr ef)
                have : open_ wt rt n (fun k => if k = slotOf fr n x then true else st.ent k) = open_ wt rt n st.ent := by
                  refine sumTo_congr n (fun d hd => ?_)
                  have : d ≠ slotOf fr n x := by unfold slotOf; rw [ef]; simp only; omega
                  simp only [if_neg this]
                omega
              | some d =>
                obtain ⟨hd, hh⟩ := hfr x d ef
                have es : slotOf fr n x = d := by unfold slotOf; rw [ef]
                rw [es] at eE ⊢
                have : open_ wt rt n (fun k => if k = d then true else st.ent k) + cost wt (rt d) = open_ wt rt n st.ent := by
                  have := sumTo_drop (f := fun d => if st.ent d = true then 0 else cost wt (rt d)) (g := fun d' => if (if d' = d then true else st.ent d') = true then 0 else cost wt (rt d')) (x := d) n hd (fun y hy => by simp only [if_neg hy]) (by simp)
                  simp only [eE, Bool.false_eq_true, if_false] at this
                  exact this
                rw [hh]
                omega) hr' hT'
            exact ⟨fin, k + 1, Goes.anew eF eS eE h, by omega⟩

end Go.Proofs.Qxb6602394a.T
