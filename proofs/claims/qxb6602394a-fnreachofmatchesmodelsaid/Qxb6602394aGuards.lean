/-
  THE GUARDS OF THE LAWS: they return, they write nothing; of the ones that count bytes no more is needed.
-/
import Derived.Test.Qxb6602394aBase
import Derived.Test.Qxb6602394aPlain
namespace Go.Proofs.Qxb6602394a.T
open Go.RowKit
set_option linter.unusedVariables false

set_option maxHeartbeats 800000 in
theorem stringsBytes_any (a : Option Addr) (n c : Nat) (A : Nat → Option Addr) (m C : Nat → Nat) (s : Nat → Nat → ByteArray) (t : Int) (w : World) (hn : n ≤ 4096) (h : RowsAt w a n A m C (fun i j => .string (s i j))) :
    Calls Try.prog 32 #[.slice a n c, .int .i64 t] w fun e w' => (∃ r : Int, e = .returned (.int .i64 r)) ∧ w = w' := by
  go_enter Try.func32, Try.ntmps32
  go_wp2
  go_loopg [1, 5, 6] n (fun k t i _ wr => ∃ p : Nat, ∃ tt : Int, k = n - p ∧ p ≤ n ∧ i = .int .i64 p ∧ t = .int .i64 tt ∧ wr = w)
  case atStart => exact ⟨0, t, rfl, Nat.zero_le _, rfl, rfl, rfl⟩
  case round =>
    obtain ⟨p, tt, hk, hpn, rfl, rfl, rfl⟩ := hrel
    have HK : Hid (gk = n - p) := hk
    clear hk
    by_cases hlt : p < n
    · obtain ⟨b, off, rfl, hc0⟩ := h.outer p hlt
      have hin := h.inner p hlt
      have hc : wr.cell? ⟨b, off + p, none⟩ = some (.slice (A p) (m p) (C p)) := hc0
      clear h hc0
      generalize A p = ap at *
      generalize m p = mp at *
      generalize C p = cp at *
      generalize s p = sp at *
      go_wp2
      all_goals try (go_ret; exact ⟨⟨_, rfl⟩, rfl⟩)
      obtain ⟨wo, rfl⟩ : ∃ wo : World, wo = wr := ⟨_, rfl⟩
      obtain ⟨g0, rfl⟩ : ∃ g0 : Nat, g0 = gk := ⟨_, rfl⟩
      go_loopg [1, 6] mp (fun k t i wr => ∃ q : Nat, ∃ tt : Int, k = mp - q ∧ q ≤ mp ∧ i = .int .i64 q ∧ t = .int .i64 tt ∧ wr = wo)
      case atStart => exact ⟨0, _, rfl, Nat.zero_le _, rfl, rfl, rfl⟩
      case round =>
        obtain ⟨q, t2, hk2, hqm, rfl, rfl, rfl⟩ := hrel
        have HK2 : Hid (gk = mp - q) := hk2
        clear hk2
        by_cases hq : q < mp
        · obtain ⟨b2, off2, rfl, hc2⟩ := hin q hq
          have hs : wr.cell? ⟨b2, off2 + q, none⟩ = some (.string (sp q)) := hc2
          clear hc2 hin
          generalize sp q = str at *
          go_wp2
          all_goals first | (go_ret; exact ⟨⟨_, rfl⟩, rfl⟩) | skip
          go_roundg (mp - (q + 1))
          case measure => rw [HK2.out]; omega
          case rel => exact ⟨q + 1, _, rfl, by omega, by go_num, rfl, rfl⟩
        · go_wp2
          go_roundg (n - (p + 1))
          case measure => rw [HK.out]; omega
          case rel => exact ⟨p + 1, _, rfl, by omega, by go_num, rfl, rfl⟩
    · go_wp2
      go_ret
      exact ⟨⟨_, rfl⟩, rfl⟩

set_option maxRecDepth 100000 in
set_option maxHeartbeats 800000 in
theorem defsBytes_any (a0 : Option Addr) (n0 c0 : Nat) (a1 : Option Addr) (n1 c1 : Nat) (s1 : Nat → ByteArray) (a2 : Option Addr) (n2 c2 : Nat) (A2 : Nat → Option Addr) (m2 C2 : Nat → Nat) (v2 : Nat → Nat → Int)
    (a3 : Option Addr) (n3 c3 : Nat) (A3 : Nat → Option Addr) (m3 C3 : Nat → Nat) (s3 : Nat → Nat → ByteArray) (a4 : Option Addr) (n4 c4 : Nat) (A4 : Nat → Option Addr) (m4 C4 : Nat → Nat) (s4 : Nat → Nat → ByteArray) (w : World)
    (l0 : n0 ≤ 4096) (l1 : n1 ≤ 4096) (l2 : n2 ≤ 4096) (l3 : n3 ≤ 4096) (l4 : n4 ≤ 4096)
    (h1 : RowAt w a1 n1 (fun i => .string (s1 i))) (h2 : RowsAt w a2 n2 A2 m2 C2 (fun i j => .int .i64 (v2 i j))) (h3 : RowsAt w a3 n3 A3 m3 C3 (fun i j => .string (s3 i j))) (h4 : RowsAt w a4 n4 A4 m4 C4 (fun i j => .string (s4 i j))) :
    Calls Try.prog 8 #[.slice a0 n0 c0, .slice a1 n1 c1, .slice a2 n2 c2, .slice a3 n3 c3, .slice a4 n4 c4] w fun e w' => (∃ r : Int, e = .returned (.int .i64 r)) ∧ w = w' := by
  go_enter Try.func8, Try.ntmps8
  go_wp2
  obtain ⟨wo, rfl⟩ : ∃ wo : World, wo = w := ⟨_, rfl⟩
  go_loopg [11, 12] n1 (fun k t i wr => ∃ p : Nat, ∃ tt : Int, k = n1 - p ∧ p ≤ n1 ∧ i = .int .i64 p ∧ t = .int .i64 tt ∧ wr = wo)
  case atStart => exact ⟨0, _, rfl, Nat.zero_le _, rfl, rfl, rfl⟩
  case round =>
    obtain ⟨p, tt, hk, hpn, rfl, rfl, rfl⟩ := hrel
    have HK : Hid (gk = n1 - p) := hk
    clear hk
    by_cases hlt : p < n1
    · obtain ⟨b, off, rfl, hc0⟩ := h1 p hlt
      have hc : wr.cell? ⟨b, off + p, none⟩ = some (.string (s1 p)) := hc0
      clear h1 hc0
      generalize s1 p = str at *
      go_wp2
      all_goals first | (go_ret; exact ⟨⟨_, rfl⟩, rfl⟩) | skip
      go_roundg (n1 - (p + 1))
      case measure => rw [HK.out]; omega
      case rel => exact ⟨p + 1, _, rfl, by omega, by go_num, rfl, rfl⟩
    · clear h1 HK
      go_wp2
      obtain ⟨wo, rfl⟩ : ∃ wo : World, wo = wr := ⟨_, rfl⟩
      go_loopg [11, 13] n2 (fun k t i wr => ∃ p : Nat, ∃ tt : Int, k = n2 - p ∧ p ≤ n2 ∧ i = .int .i64 p ∧ t = .int .i64 tt ∧ wr = wo)
      case atStart => exact ⟨0, _, rfl, Nat.zero_le _, rfl, rfl, rfl⟩
      case round =>
        obtain ⟨q, tt, hk, hqn, rfl, rfl, rfl⟩ := hrel
        have HK : Hid (gk = n2 - q) := hk
        clear hk
        by_cases hlt2 : q < n2
        · obtain ⟨b, off, rfl, hc0⟩ := h2.outer q hlt2
          have hc : wr.cell? ⟨b, off + q, none⟩ = some (.slice (A2 q) (m2 q) (C2 q)) := hc0
          clear h2 hc0
          go_wp2
          all_goals first | (go_ret; exact ⟨⟨_, rfl⟩, rfl⟩) | skip
          go_roundg (n2 - (q + 1))
          case measure => rw [HK.out]; omega
          case rel => exact ⟨q + 1, _, rfl, by omega, by go_num, rfl, rfl⟩
        · clear h2 HK
          go_wp2_with fail
          refine (stringsBytes_any a3 n3 c3 A3 m3 C3 s3 _ _ l3 h3).mono ?_
          rintro e w' ⟨⟨r, rfl⟩, rfl⟩
          by_cases hr : r ≤ 1048576
          · go_wp2_with fail
            refine (stringsBytes_any a4 n4 c4 A4 m4 C4 s4 _ _ l4 h4).mono ?_
            rintro e w' ⟨⟨r2, rfl⟩, rfl⟩
            go_wp2
            go_ret
            exact ⟨⟨_, rfl⟩, rfl⟩
          · go_wp2
            go_ret
            exact ⟨⟨_, rfl⟩, rfl⟩

set_option maxRecDepth 100000 in
set_option maxHeartbeats 1600000 in
theorem wellFormed_any (a0 : Option Addr) (n0 c0 : Nat) (a1 : Option Addr) (n1 c1 : Nat) (a2 : Option Addr) (n2 c2 : Nat) (A2 : Nat → Option Addr) (m2 C2 : Nat → Nat) (v2 : Nat → Nat → Int)
    (a3 : Option Addr) (n3 c3 : Nat) (A3 : Nat → Option Addr) (m3 C3 : Nat → Nat) (s3 : Nat → Nat → ByteArray) (a4 : Option Addr) (n4 c4 : Nat) (A4 : Nat → Option Addr) (m4 C4 : Nat → Nat) (s4 : Nat → Nat → ByteArray) (w : World)
    (l0 : n0 ≤ 4096) (hm : ∀ i, i < n2 → m2 i ≤ 1048576)
    (h2 : RowsAt w a2 n2 A2 m2 C2 (fun i j => .int .i64 (v2 i j))) (h3 : RowsAt w a3 n3 A3 m3 C3 (fun i j => .string (s3 i j))) (h4 : RowsAt w a4 n4 A4 m4 C4 (fun i j => .string (s4 i j))) :
    Calls Try.prog 9 #[.slice a0 n0 c0, .slice a1 n1 c1, .slice a2 n2 c2, .slice a3 n3 c3, .slice a4 n4 c4] w fun e w' => Answers e w w' (DocOk n0 n1 n2 n3 n4 m2 m3 m4 v2) := by
  by_cases e1 : ¬ n1 = n0
  · clear h2 h3 h4 hm
    go_enter Try.func9, Try.ntmps9
    go_wp2
    go_ret
    exact Answers.no
  have f1 : n1 = n0 := by omega
  clear e1
  subst f1
  by_cases e2 : ¬ n2 = n1
  · clear h2 h3 h4 hm
    go_enter Try.func9, Try.ntmps9
    go_wp2
    go_ret
    exact Answers.no
  have f2 : n2 = n1 := by omega
  clear e2
  subst f2
  by_cases e3 : ¬ n3 = n2
  · clear h2 h3 h4 hm
    go_enter Try.func9, Try.ntmps9
    go_wp2
    go_ret
    exact Answers.no
  have f3 : n3 = n2 := by omega
  clear e3
  subst f3
  by_cases e4 : ¬ n4 = n3
  · clear h2 h3 h4 hm
    go_enter Try.func9, Try.ntmps9
    go_wp2
    go_ret
    exact Answers.no
  have f4 : n4 = n3 := by omega
  clear e4
  subst f4
  go_enter Try.func9, Try.ntmps9
  go_wp2
  obtain ⟨wo, rfl⟩ : ∃ wo : World, wo = w := ⟨_, rfl⟩
  go_loopg [12, 13, 14, 15] n4 (fun k t i _ _ wr => ∃ p : Nat, k = n4 - p ∧ p ≤ n4 ∧ i = .int .i64 p ∧ t = .int .i64 (first m2 p) ∧ wr = wo ∧ Hid (∀ i, i < p → DefOk m2 m3 m4 v2 i))
  case atStart => exact ⟨0, rfl, Nat.zero_le _, rfl, rfl, rfl, fun i hi => by omega⟩
  case round =>
    obtain ⟨p, hk, hpn, rfl, rfl, rfl, HB⟩ := hrel
    have HK : Hid (gk = n4 - p) := hk
    clear hk
    have hf := first_le (m := m2) p (fun i hi => hm i (by omega))
    by_cases hlt : p < n4
    · obtain ⟨b2, off2, rfl, hc2⟩ := h2.outer p hlt
      have hin2 := h2.inner p hlt
      obtain ⟨b3, off3, rfl, hc3⟩ := h3.outer p hlt
      obtain ⟨b4, off4, rfl, hc4⟩ := h4.outer p hlt
      have hc2' : wr.cell? ⟨b2, off2 + p, none⟩ = some (.slice (A2 p) (m2 p) (C2 p)) := hc2
      have hc3' : wr.cell? ⟨b3, off3 + p, none⟩ = some (.slice (A3 p) (m3 p) (C3 p)) := hc3
      have hc4' : wr.cell? ⟨b4, off4 + p, none⟩ = some (.slice (A4 p) (m4 p) (C4 p)) := hc4
      have hmp := hm p hlt
      clear h2 h3 h4 hc2 hc3 hc4 hm
      by_cases e3 : ¬ m3 p = m2 p
      · go_wp2
        go_ret
        exact Answers.no
      by_cases e4 : ¬ m4 p = m2 p
      · have e3' : (m3 p : Int) ≤ m2 p ∧ (m2 p : Int) ≤ m3 p := by omega
        obtain ⟨x1, x2⟩ := e3'
        clear e3
        go_wp2
        go_ret
        exact Answers.no
      have E3 : Hid (m3 p = m2 p) := by show _ = _; omega
      have E4 : Hid (m4 p = m2 p) := by show _ = _; omega
      obtain ⟨x1, x2, x3, x4⟩ : (m3 p : Int) ≤ m2 p ∧ (m2 p : Int) ≤ m3 p ∧ (m4 p : Int) ≤ m2 p ∧ (m2 p : Int) ≤ m4 p := by omega
      clear e3 e4
      generalize A2 p = ap at *
      go_wp2
      obtain ⟨wo, rfl⟩ : ∃ wo : World, wo = wr := ⟨_, rfl⟩
      obtain ⟨g0, rfl⟩ : ∃ g0 : Nat, g0 = gk := ⟨_, rfl⟩
      go_loopg [15] (m2 p) (fun k i wr => ∃ q : Nat, k = m2 p - q ∧ q ≤ m2 p ∧ i = .int .i64 q ∧ wr = wo ∧ Hid (∀ j, j < q → v2 p j < (m2 p : Int)))
      case atStart => exact ⟨0, rfl, Nat.zero_le _, rfl, rfl, fun i hi => by omega⟩
      case round =>
        obtain ⟨q, hk2, hqm, rfl, rfl, HJ⟩ := hrel
        have HK2 : Hid (gk = m2 p - q) := hk2
        clear hk2
        by_cases hq : q < m2 p
        · obtain ⟨b5, off5, rfl, hc5⟩ := hin2 q hq
          have hs : wr.cell? ⟨b5, off5 + q, none⟩ = some (.int .i64 (v2 p q)) := hc5
          clear hc5 hin2
          by_cases hv : v2 p q < (m2 p : Int)
          · have HJ' : Hid (∀ j, j < q + 1 → v2 p j < (m2 p : Int)) := fun j hj => by
              by_cases e : j = q
              · rw [e]; exact hv
              · exact HJ.out j (by omega)
            clear HJ
            go_wp2
            go_roundg (m2 p - (q + 1))
            case measure => rw [HK2.out]; omega
            case rel => exact ⟨q + 1, rfl, by omega, by go_num, rfl, HJ'⟩
          · go_wp2
            go_ret
            exact Answers.no
        · have HB' : Hid (∀ i, i < p + 1 → DefOk m2 m3 m4 v2 i) := fun i hi => by
            by_cases e : i = p
            · rw [e]; exact ⟨E3.out, E4.out, fun j hj => HJ.out j (by omega)⟩
            · exact HB.out i (by omega)
          clear HB HJ
          go_wp2
          go_roundg (n4 - (p + 1))
          case measure => rw [HK.out]; omega
          case rel => exact ⟨p + 1, rfl, by omega, by go_num, by show _ = Value.int .i64 ((first m2 p + m2 p : Nat) : Int); go_num, rfl, HB'⟩
    · have e : p = n4 := by omega
      have HF : Hid ((∀ i, i < n4 → DefOk m2 m3 m4 v2 i)) := fun i hi => HB.out i (by omega)
      have HE : Hid (first m2 p = first m2 n4) := by show _ = _; rw [e]
      clear HB HK e h2 h3 h4 hm
      go_wp2
      go_ret
      refine ⟨decide ((first m2 p : Int) ≤ 4096), rfl, rfl, fun h => ⟨rfl, rfl, rfl, rfl, HF.out, ?_⟩⟩
      rw [← HE.out]
      simp only [decide_eq_true_eq] at h
      omega

end Go.Proofs.Qxb6602394a.T
