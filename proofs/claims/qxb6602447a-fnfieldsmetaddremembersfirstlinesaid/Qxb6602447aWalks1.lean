/-
  The guard zzBytes and the clone jfCloneOps: a slice of pairs, copied into new memory.
-/
import Derived.Test.Qxb6602447aBase
import Derived.Deep.RegionHeld3
import Derived.Deep.DeepCutAuto
import Derived.Deep.Light
namespace Go.Proofs.Qxb6602447a.T
open Go.RowKit
set_option linter.unusedVariables false

theorem info44 : (Try.prog.info? 44).map (fun i => (i.zero, i.size, i.bytes)) = some (some (.agg #[.int .i64 0, .int .i64 0]), 2, 16) := by kernel_rfl

/-- The slice at 'a' holds the pair (X j, Y j) at place j. -/
def PairsAt (w : World) (a : Option Addr) (n : Nat) (X Y : Nat → Int) : Prop :=
  ∀ j, j < n → ∃ b off, a = some ⟨b, off, none⟩ ∧ w.cell? ⟨b, off + j * 2, none⟩ = some (.int .i64 (X j)) ∧ w.cell? ⟨b, off + j * 2 + 1, none⟩ = some (.int .i64 (Y j))

theorem PairsAt.below {w w' : World} {a : Option Addr} {n : Nat} {X Y : Nat → Int} (h : PairsAt w a n X Y) (hb : Below w.heap.size w w') : PairsAt w' a n X Y := by
  intro j hj
  obtain ⟨b, off, e, h0, h1⟩ := h j hj
  exact ⟨b, off, e, (hb.cell (p := ⟨b, off + j * 2, none⟩) (lt_of_cell h0)).trans h0, (hb.cell (p := ⟨b, off + j * 2 + 1, none⟩) (lt_of_cell h1)).trans h1⟩

/-- What the copy holds when the first q pairs are laid. -/
def pairRow (X Y : Nat → Int) (q c : Nat) : Value :=
  if c < q * 2 then (if c % 2 = 0 then .int .i64 (X (c / 2)) else .int .i64 (Y (c / 2))) else .int .i64 0

theorem pairRow_made (w : World) (X Y : Nat → Int) (n : Nat) :
    (w.alloc (.cells (madeCells #[.int .i64 0, .int .i64 0] (n * 2)) 44)).rowIs w.heap.size 44 (n * 2) (pairRow X Y 0) := by
  refine ⟨_, Deep.blk_alloc_new _ _, size_madeCells _ _, fun i hi => ?_⟩
  simp only [pairRow, Nat.zero_mul, Nat.not_lt_zero, if_false]
  have hb : i % 2 < 2 := Nat.mod_lt _ (by omega)
  have h2 : i % 2 = 0 ∨ i % 2 = 1 := by omega
  rcases h2 with e | e <;> simp [madeCells, hi, e]

theorem pairRow_step {w : World} {g n q : Nat} {X Y : Nat → Int} (h : w.rowIs g 44 (n * 2) (pairRow X Y q)) :
    ((w.setCell ⟨g, q * 2, none⟩ (.int .i64 (X q))).setCell ⟨g, q * 2 + 1, none⟩ (.int .i64 (Y q))).rowIs g 44 (n * 2) (pairRow X Y (q + 1)) := by
  refine World.rowIs.congr ((h.set (q * 2) _).set (q * 2 + 1) _) (fun c _ => ?_)
  by_cases hc : q * 2 ≤ c ∧ c < q * 2 + 2
  · obtain ⟨k, rfl⟩ : ∃ k, c = q * 2 + k := ⟨c - q * 2, by omega⟩
    have e1 : (q * 2 + k) / 2 = q := by omega
    have e2 : (q * 2 + k) % 2 = k := by omega
    have e3 : q * 2 + k < (q + 1) * 2 := by omega
    have hk : k < 2 := by omega
    simp only [pairRow, if_pos e3, e1, e2]
    match k, hk with
    | 0, _ => simp
    | 1, _ => simp
  · have n0 : ¬ c = q * 2 := by omega
    have n1 : ¬ c = q * 2 + 1 := by omega
    simp only [n0, n1, if_false, pairRow]
    by_cases hl : c < q * 2
    · rw [if_pos hl, if_pos (show c < (q + 1) * 2 by omega)]
    · rw [if_neg hl, if_neg (show ¬ c < (q + 1) * 2 by omega)]

theorem pairRow_pairs {w : World} {g n : Nat} {X Y : Nat → Int} (h : w.rowIs g 44 (n * 2) (pairRow X Y n)) : PairsAt w (some ⟨g, 0, none⟩) n X Y := by
  intro j hj
  refine ⟨g, 0, rfl, ?_, ?_⟩
  · have := h.cell (show j * 2 < n * 2 by omega)
    rw [Nat.zero_add, this]
    simp [pairRow, show j * 2 < n * 2 by omega]
  · have := h.cell (show j * 2 + 1 < n * 2 by omega)
    rw [Nat.zero_add, this]
    have e1 : (j * 2 + 1) / 2 = j := by omega
    have e2 : (j * 2 + 1) % 2 = 1 := by omega
    simp [pairRow, show j * 2 + 1 < n * 2 by omega, e1, e2]

theorem bytes_any (a : Option Addr) (n c : Nat) (w : World) : Calls Try.prog 20 #[.slice a n c] w fun e w' => Answers e w w' (n ≤ 1048576) := by
  by_cases hn : n ≤ 1048576
  · go_enter Try.func20, Try.ntmps20
    go_wp2
    go_ret
    exact .yes hn
  · go_enter Try.func20, Try.ntmps20
    go_wp2
    go_ret
    exact .no

theorem info_parts {e : TypeId} {z : Value} {s b : Nat} (h : (Try.prog.info? e).map (fun i => (i.zero, i.size, i.bytes)) = some (some z, s, b)) : ∃ i, Try.prog.info? e = some i ∧ i.zero = some z ∧ i.size = s ∧ i.bytes = b := by
  obtain ⟨i, hi, hzz⟩ := Option.map_eq_some_iff.1 h
  simp only [Prod.mk.injEq] at hzz
  exact ⟨i, hi, hzz⟩

theorem run_make_pairs (n : Nat) (hn : n ≤ 1048576) (w : World) :
    (Instr.makeSlice 32 (.int .i64 (n : Int)) (.int .i64 (n : Int))).run Try.prog w = .ok (.slice (some ⟨w.heap.size, 0, none⟩) n n) (w.alloc (.cells (madeCells #[.int .i64 0, .int .i64 0] (n * 2)) 44)) := by
  obtain ⟨i, hi, hz, hs, hb⟩ := info_parts info44
  have hr := run_make (P := Try.prog) w 32 44 i _ Try.underlying32 hi hz .i64 .i64 n n (by omega) (Int.le_refl _) (by rw [hb]; omega) (by omega)
  simp only [Int.toNat_natCast, hs] at hr
  exact hr

set_option maxHeartbeats 800000 in
theorem clone_any (X Y : Nat → Int) (a : Option Addr) (n c : Nat) (w : World) (hn : n ≤ 1048576) (h : PairsAt w a n X Y) :
    Calls Try.prog 21 #[.slice a n c] w fun e w' => ∃ a' c', e = .returned (.slice a' n c') ∧ PairsAt w' a' n X Y ∧ (∀ x, a' = some x → w.heap.size ≤ x.block) ∧ Below w.heap.size w w' := by
  have q : ∀ (w : World) (a : Option Addr) (n c : Nat), (binOp .eql 32 (.slice a n c) (.slice none 0 0)).run Try.prog w = .ok (.bool a.isNone) w := fun w a n c => Lib.run_eql_slice_nil w 32 44 a n c 0 0 Try.underlying32
  have hmk := run_make_pairs n hn
  cases a with
  | none =>
    have hn0 : n = 0 := by
      rcases Nat.eq_zero_or_pos n with h0 | h0
      · exact h0
      · obtain ⟨b, off, e, _⟩ := h 0 h0; cases e
    subst hn0
    clear hmk
    go_enter Try.func21, Try.ntmps21
    go_wp2
    go_ret
    exact ⟨none, 0, rfl, h, fun x hx => (by cases hx), Below.refl _ _⟩
  | some x =>
    go_enter Try.func21, Try.ntmps21
    go_wp2
    clear hmk q
    go_loopg [4] n (fun k i wr => ∃ p : Nat, k = n - p ∧ p ≤ n ∧ i = .int .i64 p ∧ wr.rowIs w.heap.size 44 (n * 2) (pairRow X Y p) ∧ Below w.heap.size w wr)
    case atStart => exact ⟨0, rfl, Nat.zero_le _, rfl, pairRow_made w X Y n, (Below.refl _ _).alloc (Nat.le_refl _) _⟩
    case round =>
      obtain ⟨p, hk, hpn, rfl, hrow, hb⟩ := hrel
      have HK : Hid (gk = n - p) := hk
      clear hk
      by_cases hlt : p < n
      · obtain ⟨b, off, hx, k0, k1⟩ := h p hlt
        simp only [Option.some.injEq] at hx
        subst hx
        have q0 : wr.cell? ⟨b, off + p * 2, none⟩ = some (.int .i64 (X p)) := (hb.cell (lt_of_cell k0)).trans k0
        have q1 : wr.cell? ⟨b, off + p * 2 + 1, none⟩ = some (.int .i64 (Y p)) := (hb.cell (lt_of_cell k1)).trans k1
        have t0 := hrow.cell (show p * 2 < n * 2 by omega)
        have t1 := hrow.cell (show p * 2 + 1 < n * 2 by omega)
        have z0 := hrow.frozen (p * 2)
        have z1 := hrow.frozen (p * 2 + 1)
        have HR : Hid (wr.rowIs w.heap.size 44 (n * 2) (pairRow X Y p)) := hrow
        clear hrow h
        go_wp2
        go_roundg (n - (p + 1))
        case measure => rw [HK.out]; omega
        case rel => exact ⟨p + 1, rfl, by omega, by go_num, pairRow_step HR.out, (hb.setCell (Nat.le_refl _) _).setCell (Nat.le_refl _) _⟩
      · have e : p = n := by omega
        subst e
        have HP := pairRow_pairs hrow
        clear hrow h
        go_wp2
        go_ret
        exact ⟨_, _, rfl, HP, fun y hy => (by cases hy; exact Nat.le_refl _), hb⟩

end Go.Proofs.Qxb6602447a.T
