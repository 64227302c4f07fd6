/-
  classSet and classOf over a tree that lies in memory.
-/
import Derived.Test.Qxb6602394aRunBase
namespace Go.Proofs.Qxb6602394a.T
open Go.RowKit
set_option linter.unusedVariables false

/-- A selection tree as reachOf reads it. -/
structure TreeIn (w : World) (T A n N K Sp FB H R F : Nat) (key : Nat → ByteArray) (sp : Nat → Bool) (fr : Nat → Option Nat) (HV RV : Nat → Value) (hl rt : Nat → List Nat) : Prop where
  t : w.rowIs T 66 7 (tCells A n R (rowOf K N) (rowOf Sp N) (rowOf FB N) (rowOf H N) (rowOf F (n + 1)))
  keys : ∀ x, x < N → w.cell? ⟨K, x, none⟩ = some (.string (key x))
  spreads : ∀ x, x < N → w.cell? ⟨Sp, x, none⟩ = some (.bool (sp x))
  frags : ∀ x, x < N → w.cell? ⟨FB, x, none⟩ = some (.int .i64 (fragVal (fr x)))
  heldAt : ∀ x, x < N → w.cell? ⟨H, x, none⟩ = some (HV x)
  held : ∀ x, x < N → ListAt w (HV x) (hl x)
  rootAt : ∀ d, d < n → w.cell? ⟨R, d, none⟩ = some (RV d)
  roots : ∀ d, d < n → ListAt w (RV d) (rt d)

section
variable {w w' : World} {T A n N K Sp FB H R F : Nat} {key : Nat → ByteArray} {sp : Nat → Bool} {fr : Nat → Option Nat} {HV RV : Nat → Value} {hl rt : Nat → List Nat}

theorem TreeIn.below (h : TreeIn w T A n N K Sp FB H R F key sp fr HV RV hl rt) (hb : Below w.heap.size w w') : TreeIn w' T A n N K Sp FB H R F key sp fr HV RV hl rt := by
  have hc : ∀ {a : Addr} {v : Value}, w.cell? a = some v → w'.cell? a = some v := fun h => (hb.cell (lt_of_cell h)).trans h
  exact ⟨h.t.of_block (hb.block _ h.t.lt), fun x hx => hc (h.keys x hx), fun x hx => hc (h.spreads x hx), fun x hx => hc (h.frags x hx), fun x hx => hc (h.heldAt x hx), fun x hx => (h.held x hx).below hb, fun x hx => hc (h.rootAt x hx), fun x hx => (h.roots x hx).below hb⟩

end

/-- The set of a group. -/
def classList (N : Nat) (hl rt : Nat → List Nat) (c : Int) : List Nat :=
  if (N : Int) ≤ c then rt (c - N).toNat else if 0 ≤ c then hl c.toNat else []

/-- The group of a spread or inline fragment. -/
def classNo (N : Nat) (sp : Nat → Bool) (fr : Nat → Option Nat) (x : Nat) : Int :=
  if sp x = true then (match fr x with | some d => (N : Int) + d | none => -1) else x

set_option maxHeartbeats 800000 in
theorem classSet_any (w : World) (T A n N K Sp FB H R F : Nat) (key : Nat → ByteArray) (sp : Nat → Bool) (fr : Nat → Option Nat) (HV RV : Nat → Value) (hl rt : Nat → List Nat) (c : Int) (hc : c < (N : Int) + n) (hN : N ≤ 4096) (hn : n ≤ 4096)
    (h : TreeIn w T A n N K Sp FB H R F key sp fr HV RV hl rt) :
    Calls Try.prog 41 #[.pointer (some ⟨T, 0, none⟩), .int .i64 c] w fun e w' => ∃ a l cp, e = .returned (.slice a l cp) ∧ (∀ w0, TreeIn w0 T A n N K Sp FB H R F key sp fr HV RV hl rt → ListAt w0 (.slice a l cp) (classList N hl rt c)) ∧ ∃ z, w' = w.drewN z := by
  have t1 := h.t.cell (show 1 < 7 by omega)
  have t4 := h.t.cell (show 4 < 7 by omega)
  have t5 := h.t.cell (show 5 < 7 by omega)
  simp only [tCells] at t1 t4 t5
  by_cases c1 : (N : Int) ≤ c
  · obtain ⟨d, hd⟩ : ∃ d : Nat, c = (N : Int) + d := ⟨(c - N).toNat, by omega⟩
    subst hd
    have hdn : d < n := by omega
    obtain ⟨a, cp, hv, _⟩ := (h.roots d hdn).row
    have r1 := h.rootAt d hdn
    have HL : Hid (∀ w0, TreeIn w0 T A n N K Sp FB H R F key sp fr HV RV hl rt → ListAt w0 (RV d) (rt d)) := fun w0 h0 => h0.roots d hdn
    have HC : Hid (classList N hl rt ((N : Int) + d) = rt d) := by
      show _ = _
      unfold classList
      rw [if_pos (by omega), show ((N : Int) + d - N).toNat = d by omega]
    rw [hv] at r1 HL
    have d0 : (0 : Int) ≤ (d : Int) := by omega
    have d1 : (d : Int) < (n : Int) := by omega
    generalize (rt d).length = ll at *
    clear h hv
    go_enter Try.func41, Try.ntmps41
    go_wp2
    go_quiet (fail)
    go_wp2
    go_ret
    exact ⟨_, _, _, rfl, by rw [HC.out]; exact HL.out, _, rfl⟩
  · by_cases c0 : 0 ≤ c
    · obtain ⟨x, hx⟩ : ∃ x : Nat, c = (x : Int) := ⟨c.toNat, by omega⟩
      subst hx
      have hxN : x < N := by omega
      obtain ⟨a, cp, hv, _⟩ := (h.held x hxN).row
      have r1 := h.heldAt x hxN
      have HL : Hid (∀ w0, TreeIn w0 T A n N K Sp FB H R F key sp fr HV RV hl rt → ListAt w0 (HV x) (hl x)) := fun w0 h0 => h0.held x hxN
      have HC : Hid (classList N hl rt (x : Int) = hl x) := by
        show _ = _
        unfold classList
        rw [if_neg c1, if_pos c0]
        rfl
      rw [hv] at r1 HL
      generalize (hl x).length = ll at *
      clear h hv
      go_enter Try.func41, Try.ntmps41
      go_wp2
      go_ret
      exact ⟨_, _, _, rfl, by rw [HC.out]; exact HL.out, 0, rfl⟩
    · have HC : Hid (classList N hl rt c = []) := by
        show _ = _
        unfold classList
        rw [if_neg c1, if_neg c0]
      clear h
      go_enter Try.func41, Try.ntmps41
      go_wp2
      go_ret
      exact ⟨_, _, _, rfl, by rw [HC.out]; exact fun _ _ => .inl ⟨rfl, rfl⟩, 0, rfl⟩

set_option maxHeartbeats 800000 in
theorem classOf_any (w : World) (T A n N K Sp FB H R F : Nat) (key : Nat → ByteArray) (sp : Nat → Bool) (fr : Nat → Option Nat) (HV RV : Nat → Value) (hl rt : Nat → List Nat) (x : Nat) (hx : x < N) (hN : N ≤ 4096) (hfr : ∀ d, fr x = some d → d < 4096)
    (h : TreeIn w T A n N K Sp FB H R F key sp fr HV RV hl rt) :
    Calls Try.prog 42 #[.pointer (some ⟨T, 0, none⟩), .int .i64 (x : Int)] w fun e w' => e = .returned (.int .i64 (classNo N sp fr x)) ∧ ∃ z, w' = w.drewN z := by
  have t1 := h.t.cell (show 1 < 7 by omega)
  have t2 := h.t.cell (show 2 < 7 by omega)
  have t3 := h.t.cell (show 3 < 7 by omega)
  simp only [tCells] at t1 t2 t3
  have q2 := h.spreads x hx
  have q3 := h.frags x hx
  have x0 : (0 : Int) ≤ (x : Int) := by omega
  have x1 : (x : Int) < (N : Int) := by omega
  clear h
  cases hs : sp x with
  | false =>
    have HC : Hid (classNo N sp fr x = (x : Int)) := by
      show _ = _
      unfold classNo
      rw [hs]; rfl
    rw [hs] at q2
    clear hs hfr
    go_enter Try.func42, Try.ntmps42
    go_wp2
    go_ret
    exact ⟨by rw [HC.out]; rfl, 0, rfl⟩
  | true =>
    rw [hs] at q2
    cases hf : fr x with
    | none =>
      have HC : Hid (classNo N sp fr x = -1) := by
        show _ = _
        unfold classNo
        rw [hs, hf]; rfl
      rw [hf] at q3
      simp only [fragVal] at q3
      clear hs hf hfr
      go_enter Try.func42, Try.ntmps42
      go_wp2
      go_ret
      exact ⟨by rw [HC.out]; rfl, 0, rfl⟩
    | some d =>
      have HC : Hid (classNo N sp fr x = (N : Int) + d) := by
        show _ = _
        unfold classNo
        rw [hs, hf]; rfl
      rw [hf] at q3
      simp only [fragVal] at q3
      have hd := hfr d hf
      clear hs hf hfr
      go_enter Try.func42, Try.ntmps42
      go_wp2
      go_quiet (fail)
      go_wp2
      go_ret
      exact ⟨by rw [HC.out]; go_num, _, rfl⟩

end Go.Proofs.Qxb6602394a.T
