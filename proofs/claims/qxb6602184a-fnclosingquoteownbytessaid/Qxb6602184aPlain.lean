/-
  THE PLAIN LAW BEHIND closingQuote: no Go in sight. Places are natural numbers, the bytes a function of the place.
-/
namespace Go.Proofs.Qxb6602184a.Cq

/-- The run of backslashes right ahead of place p, counted down to place i (i itself left out). -/
def runTo (f : Nat → Int) (i : Nat) : Nat → Nat
  | 0 => 0
  | p + 1 => if i < p ∧ f p = 92 then runTo f i p + 1 else 0

/-- A quote behind an even run. -/
def hitB (f : Nat → Int) (i p : Nat) : Bool := decide (f p = 34 ∧ runTo f i p % 2 = 0)

/-- The first such quote from p on, within so many places. -/
def seek (f : Nat → Int) (i : Nat) : Nat → Nat → Nat × Bool
  | 0, _ => (0, false)
  | n + 1, p => if hitB f i p = true then (p, true) else seek f i n (p + 1)

theorem seek_yes {f : Nat → Int} {i : Nat} : ∀ (n p m : Nat), seek f i n p = (m, true) → p ≤ m ∧ m < p + n ∧ hitB f i m = true ∧ ∀ k, p ≤ k → k < m → hitB f i k = false
  | 0, p, m, h => by simp [seek] at h
  | n + 1, p, m, h => by
    unfold seek at h
    by_cases hh : hitB f i p = true
    · rw [if_pos hh] at h
      simp only [Prod.mk.injEq, and_true] at h
      subst h
      exact ⟨Nat.le_refl _, by omega, hh, fun k h1 h2 => by omega⟩
    · rw [if_neg hh] at h
      obtain ⟨h1, h2, h3, h4⟩ := seek_yes n (p + 1) m h
      refine ⟨by omega, by omega, h3, fun k hk1 hk2 => ?_⟩
      by_cases e : k = p
      · subst e; simpa using hh
      · exact h4 k (by omega) hk2

theorem seek_of {f : Nat → Int} {i : Nat} : ∀ (n p m : Nat), p ≤ m → m < p + n → hitB f i m = true → (∀ k, p ≤ k → k < m → hitB f i k = false) → seek f i n p = (m, true)
  | 0, p, m, h1, h2, _, _ => by omega
  | n + 1, p, m, h1, h2, h3, h4 => by
    unfold seek
    by_cases e : p = m
    · subst e; rw [if_pos h3]
    · have := h4 p (Nat.le_refl _) (by omega)
      rw [if_neg (by simp [this])]
      exact seek_of n (p + 1) m (by omega) (by omega) h3 (fun k a b => h4 k (by omega) b)

theorem seek_hit {f : Nat → Int} {i n p : Nat} (hp : p < n) (h1 : f p = 34) (h2 : runTo f i p % 2 = 0) : seek f i (n - p) p = (p, true) := by
  obtain ⟨k, hk⟩ : ∃ k, n - p = k + 1 := ⟨n - p - 1, by omega⟩
  rw [hk]; unfold seek; rw [if_pos]; simp [hitB, h1, h2]

theorem seek_miss {f : Nat → Int} {i n p : Nat} (hp : p < n) (h : f p ≠ 34 ∨ runTo f i p % 2 ≠ 0) : seek f i (n - p) p = seek f i (n - (p + 1)) (p + 1) := by
  obtain ⟨k, hk⟩ : ∃ k, n - p = k + 1 := ⟨n - p - 1, by omega⟩
  rw [hk, show n - (p + 1) = k from by omega]
  show (if hitB f i p = true then (p, true) else seek f i k (p + 1)) = _
  rw [if_neg]
  simp only [hitB, decide_eq_true_eq]
  omega

theorem run_succ {f : Nat → Int} {i p : Nat} (h : i < p) (hb : f p = 92) : runTo f i (p + 1) = runTo f i p + 1 := by
  rw [runTo, if_pos ⟨h, hb⟩]

theorem run_stop {f : Nat → Int} {i p : Nat} (h : ¬ i < p ∨ f p ≠ 92) : runTo f i (p + 1) = 0 := by
  rw [runTo, if_neg (by rintro ⟨a, b⟩; rcases h with h | h <;> contradiction)]

/-- One step of closingQuote over a byte that is neither quote nor backslash. -/
theorem step_other {f : Nat → Int} {i p m : Nat} (hm : hitB f i m = true) (hp : p ≤ m) (h34 : f p ≠ 34) (h92 : f p ≠ 92) : p + 1 ≤ m ∧ runTo f i (p + 1) % 2 = 0 := by
  have : f m = 34 := by simp [hitB] at hm; exact hm.1
  refine ⟨?_, by rw [run_stop (.inr h92)]⟩
  by_cases e : p = m
  · subst e; contradiction
  · omega

/-- One step over a backslash and the byte behind it. -/
theorem step_esc {f : Nat → Int} {i p m : Nat} (hm : hitB f i m = true) (hi : i < p) (hp : p ≤ m) (he : runTo f i p % 2 = 0) (h92 : f p = 92) : p + 2 ≤ m ∧ runTo f i (p + 2) % 2 = 0 := by
  have h1 := run_succ (f := f) hi h92
  have hm' : f m = 34 ∧ runTo f i m % 2 = 0 := by simpa [hitB] using hm
  refine ⟨?_, ?_⟩
  · by_cases e : p = m
    · subst e; omega
    · by_cases e2 : p + 1 = m
      · subst e2; omega
      · omega
  · by_cases e : f (p + 1) = 92
    · rw [run_succ (p := p + 1) (by omega) e]; omega
    · rw [run_stop (p := p + 1) (.inr e)]

/-- At a quote closingQuote has come to the model's place. -/
theorem step_quote {f : Nat → Int} {i p m : Nat} (hl : ∀ k, i + 1 ≤ k → k < m → hitB f i k = false) (hi : i < p) (hp : p ≤ m) (he : runTo f i p % 2 = 0) (h34 : f p = 34) : p = m := by
  by_cases e : p = m
  · exact e
  · have := hl p (by omega) (by omega)
    simp [hitB, h34, he] at this

/-- The string's own bytes, read alone. -/
theorem run_shift {f : Nat → Int} {i : Nat} : ∀ p, runTo (fun j => f (i + j)) 0 p = runTo f i (i + p)
  | 0 => by
    cases i with
    | zero => rfl
    | succ i => show 0 = runTo f (i + 1) (i + 1); rw [run_stop (.inl (by omega))]
  | p + 1 => by
    show (if 0 < p ∧ f (i + p) = 92 then runTo (fun j => f (i + j)) 0 p + 1 else 0) = (if i < i + p ∧ f (i + p) = 92 then runTo f i (i + p) + 1 else 0)
    rw [run_shift p]
    by_cases h : 0 < p ∧ f (i + p) = 92
    · rw [if_pos h, if_pos ⟨by omega, h.2⟩]
    · rw [if_neg h, if_neg (fun h' => h ⟨by omega, h'.2⟩)]

theorem hit_shift {f : Nat → Int} {i p : Nat} : hitB (fun j => f (i + j)) 0 p = hitB f i (i + p) := by
  simp only [hitB, run_shift]

theorem seek_own {f : Nat → Int} {i m : Nat} (hi : i + 1 ≤ m) (hm : hitB f i m = true) (hl : ∀ k, i + 1 ≤ k → k < m → hitB f i k = false) : seek (fun j => f (i + j)) 0 (m + 1 - i - (0 + 1)) (0 + 1) = (m - i, true) := by
  refine seek_of _ _ _ (by omega) (by omega) ?_ ?_
  · rw [hit_shift, show i + (m - i) = m from by omega]; exact hm
  · intro k h1 h2
    rw [hit_shift]; exact hl _ (by omega) (by omega)

end Go.Proofs.Qxb6602184a.Cq
