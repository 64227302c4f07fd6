/-
  THE PLAIN LAW BEHIND space: no Go in sight. Places are natural numbers, the bytes a function of the place.
-/
namespace Go.Proofs.Qxb6602270a.Sp

def blankB (c : Int) : Bool := c == 32 || c == 9 || c == 10 || c == 13

theorem blank_cases {c : Int} (h : blankB c = true) : ((c == 32) = true) ∨ ((c == 32) = false ∧ (c == 9) = true) ∨ ((c == 32) = false ∧ (c == 9) = false ∧ (c == 10) = true) ∨ ((c == 32) = false ∧ (c == 9) = false ∧ (c == 10) = false ∧ (c == 13) = true) := by
  unfold blankB at h
  cases h1 : (c == 32) <;> cases h2 : (c == 9) <;> cases h3 : (c == 10) <;> cases h4 : (c == 13) <;> simp_all

/-- Over the blanks from p on, within so many places. -/
def skip (f : Nat → Int) : Nat → Nat → Nat
  | 0, p => p
  | k + 1, p => if blankB (f p) = true then skip f k (p + 1) else p

/-- Where 'space' ends, from p on, in a text of n bytes. -/
def sp (f : Nat → Int) (n p : Nat) : Nat := skip f (n - p) p

theorem skip_spec (f : Nat → Int) : ∀ k p, p ≤ skip f k p ∧ skip f k p ≤ p + k ∧ (∀ j, p ≤ j → j < skip f k p → blankB (f j) = true) ∧ (skip f k p < p + k → blankB (f (skip f k p)) = false)
  | 0, p => ⟨Nat.le_refl _, Nat.le_refl _, fun j h1 h2 => by simp [skip] at h2; omega, fun h => by simp [skip] at h⟩
  | k + 1, p => by
    by_cases hb : blankB (f p) = true
    · have e : skip f (k + 1) p = skip f k (p + 1) := by show (if blankB (f p) = true then skip f k (p + 1) else p) = _; rw [if_pos hb]
      rw [e]
      obtain ⟨h1, h2, h3, h4⟩ := skip_spec f k (p + 1)
      refine ⟨by omega, by omega, fun j a b => ?_, fun h => h4 (by omega)⟩
      by_cases ej : j = p
      · subst ej; exact hb
      · exact h3 j (by omega) b
    · have e : skip f (k + 1) p = p := by show (if blankB (f p) = true then skip f k (p + 1) else p) = _; rw [if_neg hb]
      rw [e]
      exact ⟨Nat.le_refl _, by omega, fun j a b => by omega, fun _ => by simpa using hb⟩

theorem sp_spec (f : Nat → Int) (n p : Nat) : p ≤ sp f n p ∧ (sp f n p ≤ n ∨ sp f n p = p) ∧ (∀ j, p ≤ j → j < sp f n p → blankB (f j) = true) ∧ (sp f n p < n → blankB (f (sp f n p)) = false) := by
  obtain ⟨h1, h2, h3, h4⟩ := skip_spec f (n - p) p
  refine ⟨h1, ?_, h3, fun h => h4 ?_⟩
  · show skip f (n - p) p ≤ n ∨ skip f (n - p) p = p
    omega
  · have : skip f (n - p) p < n := h
    omega

theorem sp_past {f : Nat → Int} {n p : Nat} (h : n ≤ p) : sp f n p = p := by
  have : n - p = 0 := by omega
  simp [sp, this, skip]

theorem skip_blank {f : Nat → Int} {n p : Nat} (h : p < n) (hb : blankB (f p) = true) : skip f (n - p) p = skip f (n - (p + 1)) (p + 1) := by
  obtain ⟨k, hk⟩ : ∃ k, n - p = k + 1 := ⟨n - p - 1, by omega⟩
  rw [hk, show n - (p + 1) = k from by omega]
  show (if blankB (f p) = true then skip f k (p + 1) else p) = _
  rw [if_pos hb]

theorem skip_stop {f : Nat → Int} {n p : Nat} (h : p < n) (hb : blankB (f p) = false) : skip f (n - p) p = p := by
  obtain ⟨k, hk⟩ : ∃ k, n - p = k + 1 := ⟨n - p - 1, by omega⟩
  rw [hk]
  show (if blankB (f p) = true then skip f k (p + 1) else p) = _
  rw [if_neg (by simp [hb])]

theorem sp_mono {f : Nat → Int} {n i j : Nat} (h : i ≤ j) : sp f n i ≤ sp f n j := by
  obtain ⟨a1, a2, a3, a4⟩ := sp_spec f n i
  obtain ⟨b1, b2, b3, b4⟩ := sp_spec f n j
  refine Nat.le_of_not_lt fun hlt => ?_
  have h1 := a3 (sp f n j) (by omega) hlt
  have h2 := b4 (by omega)
  rw [h1] at h2; cases h2

theorem sp_join {f : Nat → Int} {n i j : Nat} (h : i ≤ j) (hj : j ≤ sp f n i) : sp f n j = sp f n i := by
  have hm := sp_mono (f := f) (n := n) h
  obtain ⟨a1, a2, a3, a4⟩ := sp_spec f n i
  obtain ⟨b1, b2, b3, b4⟩ := sp_spec f n j
  refine Nat.le_antisymm (Nat.le_of_not_lt fun hlt => ?_) hm
  have h1 := b3 (sp f n i) hj hlt
  have h2 := a4 (by omega)
  rw [h1] at h2; cases h2

theorem sp_again (f : Nat → Int) (n i : Nat) : sp f n (sp f n i) = sp f n i :=
  sp_join (sp_spec f n i).1 (Nat.le_refl _)

theorem sp_end {f : Nat → Int} {n i : Nat} (h : i ≤ n) : sp f n i ≤ n := by
  have := (sp_spec f n i).2.1
  omega

end Go.Proofs.Qxb6602270a.Sp
