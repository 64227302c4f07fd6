/-
  b1DocumentOrderly and b1CountSelections.
-/
import Derived.Test.Qxb6602394aGuards
namespace Go.Proofs.Qxb6602394a.T
open Go.RowKit
set_option linter.unusedVariables false

theorem hide' {p : Prop} (h : p) : Hid p := h

set_option maxHeartbeats 800000 in
theorem count_any (a2 : Option Addr) (n c2 : Nat) (A2 : Nat → Option Addr) (m C2 : Nat → Nat) (v2 : Nat → Nat → Int) (w : World) (hn : n ≤ 4096) (hm : ∀ i, i < n → m i ≤ 1048576) (h2 : RowsAt w a2 n A2 m C2 (fun i j => .int .i64 (v2 i j))) :
    Calls Try.prog 19 #[.slice a2 n c2] w fun e w' => e = .returned (.int .i64 (first m n : Int)) ∧ w = w' := by
  go_enter Try.func19, Try.ntmps19
  go_wp2
  obtain ⟨wo, rfl⟩ : ∃ wo : World, wo = w := ⟨_, rfl⟩
  go_loopg [3, 4] n (fun k t i wr => ∃ p : Nat, k = n - p ∧ p ≤ n ∧ i = .int .i64 p ∧ t = .int .i64 (first m p) ∧ wo = wr)
  case atStart => exact ⟨0, rfl, Nat.zero_le _, rfl, rfl, rfl⟩
  case round =>
    obtain ⟨p, hk, hpn, rfl, rfl, rfl⟩ := hrel
    have HK := hide' hk
    clear hk
    by_cases hlt : p < n
    · obtain ⟨b2, off2, rfl, hc2⟩ := h2.outer p hlt
      have hc2' : wo.cell? ⟨b2, off2 + p, none⟩ = some (.slice (A2 p) (m p) (C2 p)) := hc2
      have hmp := hm p hlt
      have hf := first_le (m := m) p (fun i hi => hm i (by omega))
      have HF : Hid (first m (p + 1) = first m p + m p) := first_succ m p
      clear h2 hc2 hm
      go_wp2
      go_roundg (n - (p + 1))
      case measure => rw [HK.out]; omega
      case rel => exact ⟨p + 1, rfl, by omega, by go_num, by rw [HF.out]; go_num, rfl⟩
    · have e : p = n := by omega
      subst e
      clear h2
      go_wp2
      go_ret
      exact ⟨rfl, rfl⟩

set_option maxRecDepth 100000 in
set_option maxHeartbeats 1600000 in
theorem orderly_any (a2 : Option Addr) (n c2 : Nat) (A2 : Nat → Option Addr) (m C2 : Nat → Nat) (v2 : Nat → Nat → Int)
    (a3 : Option Addr) (c3 : Nat) (A3 : Nat → Option Addr) (C3 : Nat → Nat) (s3 : Nat → Nat → ByteArray) (a4 : Option Addr) (c4 : Nat) (A4 : Nat → Option Addr) (C4 : Nat → Nat) (s4 : Nat → Nat → ByteArray) (w : World)
    (hn : n ≤ 4096) (hm : ∀ i, i < n → m i ≤ 1048576)
    (h2 : RowsAt w a2 n A2 m C2 (fun i j => .int .i64 (v2 i j))) (h3 : RowsAt w a3 n A3 m C3 (fun i j => .string (s3 i j))) (h4 : RowsAt w a4 n A4 m C4 (fun i j => .string (s4 i j))) :
    Calls Try.prog 18 #[.slice a2 n c2, .slice a3 n c3, .slice a4 n c4] w fun e w' => Answers e w w' (∀ i j, i < n → j < m i → v2 i j < (j : Int)) := by
  go_enter Try.func18, Try.ntmps18
  go_wp2
  obtain ⟨wo, rfl⟩ : ∃ wo : World, wo = w := ⟨_, rfl⟩
  go_loopg [7, 8, 9] n (fun k i _ _ wr => ∃ p : Nat, k = n - p ∧ p ≤ n ∧ i = .int .i64 p ∧ wr = wo ∧ Hid (∀ i j, i < p → j < m i → v2 i j < (j : Int)))
  case atStart => exact ⟨0, rfl, Nat.zero_le _, rfl, rfl, fun i j hi => by omega⟩
  case round =>
    obtain ⟨p, hk, hpn, rfl, rfl, HB⟩ := hrel
    have HK := hide' hk
    clear hk
    by_cases hlt : p < n
    · obtain ⟨b2, off2, rfl, hc2⟩ := h2.outer p hlt
      obtain ⟨b3, off3, rfl, hc3⟩ := h3.outer p hlt
      obtain ⟨b4, off4, rfl, hc4⟩ := h4.outer p hlt
      have hin2 := h2.inner p hlt
      have hin3 := h3.inner p hlt
      have hin4 := h4.inner p hlt
      have hc2' : wr.cell? ⟨b2, off2 + p, none⟩ = some (.slice (A2 p) (m p) (C2 p)) := hc2
      have hc3' : wr.cell? ⟨b3, off3 + p, none⟩ = some (.slice (A3 p) (m p) (C3 p)) := hc3
      have hc4' : wr.cell? ⟨b4, off4 + p, none⟩ = some (.slice (A4 p) (m p) (C4 p)) := hc4
      have hmp := hm p hlt
      clear h2 h3 h4 hc2 hc3 hc4 hm
      generalize A2 p = ap2 at *
      generalize A3 p = ap3 at *
      generalize A4 p = ap4 at *
      go_wp2
      obtain ⟨wo, rfl⟩ : ∃ wo : World, wo = wr := ⟨_, rfl⟩
      obtain ⟨g0, rfl⟩ : ∃ g0 : Nat, g0 = gk := ⟨_, rfl⟩
      go_loopg [8, 9] (m p) (fun k i _ wr => ∃ q : Nat, k = m p - q ∧ q ≤ m p ∧ i = .int .i64 q ∧ wr = wo ∧ Hid (∀ j, j < q → v2 p j < (j : Int)))
      case atStart => exact ⟨0, rfl, Nat.zero_le _, rfl, rfl, fun i hi => by omega⟩
      case round =>
        obtain ⟨q, hk2, hqm, rfl, rfl, HJ⟩ := hrel
        have HK2 := hide' hk2
        clear hk2
        by_cases hq : q < m p
        · obtain ⟨b5, off5, rfl, hc5⟩ := hin2 q hq
          obtain ⟨b6, off6, rfl, hc6⟩ := hin3 q hq
          obtain ⟨b7, off7, rfl, hc7⟩ := hin4 q hq
          have q5 : wr.cell? ⟨b5, off5 + q, none⟩ = some (.int .i64 (v2 p q)) := hc5
          have q6 : wr.cell? ⟨b6, off6 + q, none⟩ = some (.string (s3 p q)) := hc6
          have q7 : wr.cell? ⟨b7, off7 + q, none⟩ = some (.string (s4 p q)) := hc7
          clear hc5 hc6 hc7 hin2 hin3
          by_cases hv : v2 p q < (q : Int)
          · have HJ' : Hid (∀ j, j < q + 1 → v2 p j < (j : Int)) := fun j hj => by
              by_cases e : j = q
              · rw [e]; exact hv
              · exact HJ.out j (by omega)
            clear HJ
            by_cases hv0 : 0 ≤ v2 p q
            · have hlt2 : v2 p q < (m p : Int) := by omega
              have q8 : wr.cell? ⟨b7, off7 + (v2 p q).toNat, none⟩ = some (.string (s4 p (v2 p q).toNat)) := RowAt.cell hin4 (show (v2 p q).toNat < m p by omega)
              clear hin4
              go_wp2
              all_goals first | (go_ret; exact Answers.no) | skip
              all_goals (go_roundg (m p - (q + 1)))
              all_goals first | (rw [HK2.out]; omega) | exact ⟨q + 1, rfl, by omega, by go_num, rfl, HJ'⟩
            · clear hin4
              go_wp2
              all_goals first | (go_ret; exact Answers.no) | skip
              all_goals (go_roundg (m p - (q + 1)))
              all_goals first | (rw [HK2.out]; omega) | exact ⟨q + 1, rfl, by omega, by go_num, rfl, HJ'⟩
          · go_wp2
            go_ret
            exact Answers.no
        · have HB' : Hid (∀ i j, i < p + 1 → j < m i → v2 i j < (j : Int)) := fun i j hi hj => by
            by_cases e : i = p
            · rw [e] at hj ⊢; exact HJ.out j (by omega)
            · exact HB.out i j (by omega) hj
          clear HB HJ
          go_wp2
          go_roundg (n - (p + 1))
          case measure => rw [HK.out]; omega
          case rel => exact ⟨p + 1, rfl, by omega, by go_num, rfl, HB'⟩
    · have HF : Hid (∀ i j, i < n → j < m i → v2 i j < (j : Int)) := fun i j hi => HB.out i j (by omega)
      clear HB HK h2 h3 h4 hm
      go_wp2
      go_ret
      exact Answers.yes HF.out

end Go.Proofs.Qxb6602394a.T
