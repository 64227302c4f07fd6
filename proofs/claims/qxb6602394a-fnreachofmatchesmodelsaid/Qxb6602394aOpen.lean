/-
  THE ARGUMENTS, OPENED: slices of bools and of strings, slices of such slices, as rows of cells.
-/
import Derived.Test.Qxb6602394aBase
import Derived.ProofKit
import Derived.Deep.Slices
namespace Go.Proofs.Qxb6602394a.T
open Go.RowKit Go.ChangeShapes Go.WideShapes
set_option linter.unusedVariables false

section
variable {H : Type} {enc : TypeId × Value → H} {W : World} {base : Nat} {sp : Nat → Bool} {held : Bool} {fuel : Nat} {a : Option Addr} {len cap : Nat} {x : DataW H × List MemPlace}

theorem row_of {t e : TypeId} (ht : Try.prog.underlying t = some (.slice e)) (hc : Try.prog.cellsOf e = 1) (h : DataW.trod enc Try.prog W base sp held fuel t [.slice a len cap] = some x) :
    len ≤ maxLen ∧ ∃ V : Nat → Value, RowAt W a len V ∧ ∀ i, i < len → ∃ n y, DataW.trod enc Try.prog W base sp held n e [V i] = some y := by
  rcases Deep.open_slice1 ht hc h with ⟨hcs, _⟩ | ⟨y, l, c, m, n, V, D, Pl, hcs, hb, hl, hm, hmm, hx, hcell⟩
  · simp at hcs
    obtain ⟨rfl, rfl, rfl⟩ := hcs
    exact ⟨Nat.zero_le _, fun _ => .bool false, fun j hj => by omega, fun j hj => by omega⟩
  · simp at hcs
    obtain ⟨rfl, rfl, rfl⟩ := hcs
    have hlm : len ≤ m := by rw [hmm]; split <;> omega
    refine ⟨by omega, V, fun j hj => ?_, fun j hj => ⟨n, _, (hcell j (by omega)).2⟩⟩
    obtain ⟨b, off, spot⟩ := y
    have hspot : spot = none := by simpa [Addr.add] using World.cell?_spot (hcell 0 (by omega)).1
    subst hspot
    exact ⟨b, off, rfl, by rw [← (hcell j (by omega)).1, WideShapes.add_plain]⟩

theorem bools_of {t e : TypeId} (ht : Try.prog.underlying t = some (.slice e)) (he : Try.prog.underlying e = some .bool) (hc : Try.prog.cellsOf e = 1) (h : DataW.trod enc Try.prog W base sp held fuel t [.slice a len cap] = some x) :
    len ≤ maxLen ∧ ∃ B : Nat → Bool, RowAt W a len (fun i => .bool (B i)) := by
  obtain ⟨hl, V, hr, hv⟩ := row_of ht hc h
  obtain ⟨B, hB⟩ := Deep.choose_lt (n := len) (p := fun i b => V i = .bool b) (fun i hi => by
    obtain ⟨n, y, h⟩ := hv i hi
    obtain ⟨b, e, _⟩ := DataW.trod_bool he h
    exact ⟨b, by simpa using e⟩)
  exact ⟨hl, B, hr.congr hB⟩

theorem strs_of {t e : TypeId} (ht : Try.prog.underlying t = some (.slice e)) (he : Try.prog.underlying e = some .string) (hc : Try.prog.cellsOf e = 1) (h : DataW.trod enc Try.prog W base sp held fuel t [.slice a len cap] = some x) :
    len ≤ maxLen ∧ ∃ S : Nat → ByteArray, RowAt W a len (fun i => .string (S i)) ∧ ∀ i, i < len → (S i).size ≤ maxLen := by
  obtain ⟨hl, V, hr, hv⟩ := row_of ht hc h
  obtain ⟨S, hS⟩ := Deep.choose_lt (n := len) (p := fun i s => V i = .string s ∧ s.size ≤ maxLen) (fun i hi => by
    obtain ⟨n, y, h⟩ := hv i hi
    obtain ⟨s, e, _, hz⟩ := DataW.trod_string he h
    exact ⟨s, by simpa using e, hz⟩)
  exact ⟨hl, S, hr.congr (fun i hi => (hS i hi).1), fun i hi => (hS i hi).2⟩

theorem ints_of {t e : TypeId} (ht : Try.prog.underlying t = some (.slice e)) (he : Try.prog.underlying e = some (.int .i64)) (hc : Try.prog.cellsOf e = 1) (h : DataW.trod enc Try.prog W base sp held fuel t [.slice a len cap] = some x) :
    len ≤ maxLen ∧ ∃ Z : Nat → Int, RowAt W a len (fun i => .int .i64 (Z i)) := by
  obtain ⟨hl, V, hr, hv⟩ := row_of ht hc h
  obtain ⟨Z, hZ⟩ := Deep.choose_lt (n := len) (p := fun i z => V i = .int .i64 z) (fun i hi => by
    obtain ⟨n, y, h⟩ := hv i hi
    obtain ⟨z, e, _⟩ := DataW.trod_int he h
    exact ⟨z, by simpa using e⟩)
  exact ⟨hl, Z, hr.congr hZ⟩

/-- The parts of a slice that is read. -/
theorem slice_of {t e : TypeId} (ht : Try.prog.underlying t = some (.slice e)) {v : Value} {y : DataW H × List MemPlace} {n : Nat} (h : DataW.trod enc Try.prog W base sp held n t [v] = some y) : ∃ a m c, v = .slice a m c := by
  rcases Deep.open_slice ht h with ⟨hcs, _⟩ | ⟨a, l, c, _, _, _, _, hcs, _⟩
  · exact ⟨none, 0, 0, by simpa using hcs⟩
  · exact ⟨some a, l, c, by simpa using hcs⟩

theorem intss_of {t u e : TypeId} (ht : Try.prog.underlying t = some (.slice u)) (hu : Try.prog.underlying u = some (.slice e)) (he : Try.prog.underlying e = some (.int .i64)) (hcu : Try.prog.cellsOf u = 1) (hce : Try.prog.cellsOf e = 1)
    (h : DataW.trod enc Try.prog W base sp held fuel t [.slice a len cap] = some x) :
    len ≤ maxLen ∧ ∃ (A : Nat → Option Addr) (m C : Nat → Nat) (Z : Nat → Nat → Int), RowsAt W a len A m C (fun i j => .int .i64 (Z i j)) := by
  obtain ⟨hl, V, hr, hv⟩ := row_of ht hcu h
  obtain ⟨q, hq⟩ := Deep.choose_lt (n := len) (α := (Option Addr) × Nat × Nat × (Nat → Int)) (p := fun i q => V i = .slice q.1 q.2.1 q.2.2.1 ∧ RowAt W q.1 q.2.1 (fun j => .int .i64 (q.2.2.2 j))) (fun i hi => by
    obtain ⟨n, y, h⟩ := hv i hi
    obtain ⟨a', m', c', e'⟩ := slice_of hu h
    rw [e'] at h
    obtain ⟨_, Z, hZ⟩ := ints_of hu he hce h
    exact ⟨(a', m', c', Z), e', hZ⟩)
  exact ⟨hl, fun i => (q i).1, fun i => (q i).2.1, fun i => (q i).2.2.1, fun i => (q i).2.2.2, hr.congr (fun i hi => (hq i hi).1), fun i hi => (hq i hi).2⟩

theorem strss_of {t u e : TypeId} (ht : Try.prog.underlying t = some (.slice u)) (hu : Try.prog.underlying u = some (.slice e)) (he : Try.prog.underlying e = some .string) (hcu : Try.prog.cellsOf u = 1) (hce : Try.prog.cellsOf e = 1)
    (h : DataW.trod enc Try.prog W base sp held fuel t [.slice a len cap] = some x) :
    len ≤ maxLen ∧ ∃ (A : Nat → Option Addr) (m C : Nat → Nat) (S : Nat → Nat → ByteArray), RowsAt W a len A m C (fun i j => .string (S i j)) ∧ ∀ i j, i < len → j < m i → (S i j).size ≤ maxLen := by
  obtain ⟨hl, V, hr, hv⟩ := row_of ht hcu h
  obtain ⟨q, hq⟩ := Deep.choose_lt (n := len) (α := (Option Addr) × Nat × Nat × (Nat → ByteArray)) (p := fun i q => V i = .slice q.1 q.2.1 q.2.2.1 ∧ RowAt W q.1 q.2.1 (fun j => .string (q.2.2.2 j)) ∧ ∀ j, j < q.2.1 → (q.2.2.2 j).size ≤ maxLen) (fun i hi => by
    obtain ⟨n, y, h⟩ := hv i hi
    obtain ⟨a', m', c', e'⟩ := slice_of hu h
    rw [e'] at h
    obtain ⟨_, S, hS, hz⟩ := strs_of hu he hce h
    exact ⟨(a', m', c', S), e', hS, hz⟩)
  exact ⟨hl, fun i => (q i).1, fun i => (q i).2.1, fun i => (q i).2.2.1, fun i => (q i).2.2.2, ⟨hr.congr (fun i hi => (hq i hi).1), fun i hi => (hq i hi).2.1⟩, fun i j hi hj => (hq i hi).2.2 j hj⟩

end
end Go.Proofs.Qxb6602394a.T
