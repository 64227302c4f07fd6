/-
  THE WALKS: each Go function on the road of the two laws over closingQuote computes a plain function (Qxb6602184aPlain).
-/
import Derived.Test.Qxb6602184aRows
import Derived.Test.Qxb6602184aPlain
import Derived.WalkKit
import Derived.ProofKit
import Derived.WalkLawsBesides
import Derived.Below
import Derived.Outline
namespace Go.Proofs.Qxb6602184a.Cq
open Go.RowKit
set_option linter.unusedVariables false

/-! ### the guards on the total length -/
theorem bytes_spec (a : Option Addr) (n c : Nat) (i : Int) (w : World) (hn : n ≤ 65536) :
    Calls Try.prog 14 #[.slice a n c, .int .i64 i] w fun e w' => e = .returned (.bool true) ∧ w' = w := by
  go_enter Try.func14, Try.ntmps14
  go_wp2
  go_ret
  exact ⟨rfl, rfl⟩

theorem bytes_own (a : Option Addr) (n c : Nat) (i : Int) (w : World) (hn : n ≤ 65536) :
    Calls Try.prog 17 #[.slice a n c, .int .i64 i] w fun e w' => e = .returned (.bool true) ∧ w' = w := by
  go_enter Try.func17, Try.ntmps17
  go_wp2
  go_ret
  exact ⟨rfl, rfl⟩

/-! ### closingQuote -/
set_option maxHeartbeats 400000 in
theorem quote_any (f : Nat → Int) (b off n c i m : Nat) (w : World) (hn : n ≤ 65536) (him : i + 1 ≤ m) (hm : m < n) (hhit : hitB f i m = true) (hl : ∀ k, i + 1 ≤ k → k < m → hitB f i k = false)
    (hc : ∀ j, j < n → w.cell? ⟨b, off + j, none⟩ = some (.int .u8 (f j))) :
    Calls Try.prog 24 #[.slice (some ⟨b, off, none⟩) n c, .int .i64 i] w fun e w' => e = .returned (.int .i64 m) ∧ w' = w := by
  go_enter Try.func24, Try.ntmps24
  go_wp2
  go_loop [1] (fun v => ∃ p : Nat, v = .int .i64 p ∧ i < p ∧ p ≤ m ∧ runTo f i p % 2 = 0) (fun v => m + 2 - (intOf v).toNat)
  case atStart => exact ⟨i + 1, by go_num, by omega, by omega, by rw [run_stop (.inl (by omega))]⟩
  case round =>
    obtain ⟨p, rfl, hip, hpm, hev⟩ := hrel
    have hcp := hc p (by omega)
    have HE : Hid (runTo f i p % 2 = 0) := hev
    clear hev
    by_cases h34 : f p = 34
    · have e : Hid (p = m) := step_quote hl hip hpm HE.out h34
      have h34' : (f p == 34) = true := by simpa using h34
      clear h34
      go_wp2
      go_ret
      exact ⟨by rw [e.out]; rfl, rfl⟩
    · have h34' : (f p == 34) = false := by simpa using h34
      by_cases h92 : f p = 92
      · have s := step_esc hhit hip hpm HE.out h92
        have S : Hid (p + 2 ≤ m ∧ runTo f i (p + 2) % 2 = 0) := s
        have h92' : (f p == 92) = true := by simpa using h92
        have hb : p + 2 ≤ m := s.1
        clear h92 s h34
        go_wp2
        go_round
        case rel => exact ⟨p + 2, by go_num, by omega, by omega, S.out.2⟩
        case measure => simp [intOf]; omega
      · have s := step_other hhit hpm h34 h92
        have S : Hid (p + 1 ≤ m ∧ runTo f i (p + 1) % 2 = 0) := s
        have h92' : (f p == 92) = false := by simpa using h92
        have hb : p + 1 ≤ m := s.1
        clear h92 s h34
        go_wp2
        go_round
        case rel => exact ⟨p + 1, by go_num, by omega, by omega, S.out.2⟩
        case measure => simp [intOf]; omega

theorem zzquote_any (f : Nat → Int) (b off n c i m : Nat) (w : World) (hn : n ≤ 65536) (him : i + 1 ≤ m) (hm : m < n) (hhit : hitB f i m = true) (hl : ∀ k, i + 1 ≤ k → k < m → hitB f i k = false)
    (hc : ∀ j, j < n → w.cell? ⟨b, off + j, none⟩ = some (.int .u8 (f j))) :
    Calls Try.prog 16 #[.slice (some ⟨b, off, none⟩) n c, .int .i64 i] w fun e w' => e = .returned (.int .i64 m) ∧ w' = w := by
  go_enter Try.func16, Try.ntmps16
  go_wp2_with fail
  refine (quote_any f b off n c i m _ hn him hm hhit hl hc).mono ?_
  rintro e w' ⟨rfl, rfl⟩
  go_wp2
  go_ret
  exact ⟨rfl, rfl⟩

/-! ### closingModel -/
set_option maxHeartbeats 800000 in
theorem model_any (f : Nat → Int) (b off n c i : Nat) (w : World) (hn : n ≤ 65536) (hi : i < n)
    (hc : ∀ j, j < n → w.cell? ⟨b, off + j, none⟩ = some (.int .u8 (f j))) :
    Calls Try.prog 23 #[.slice (some ⟨b, off, none⟩) n c, .int .i64 i] w fun e w' => e = .returned (.tuple #[.int .i64 (seek f i (n - (i + 1)) (i + 1)).1, .bool (seek f i (n - (i + 1)) (i + 1)).2]) ∧ w' = w := by
  obtain ⟨R, hR⟩ : ∃ R, R = seek f i (n - (i + 1)) (i + 1) := ⟨_, rfl⟩
  rw [← hR]
  have HR : Hid (R = seek f i (n - (i + 1)) (i + 1)) := hR
  clear hR
  go_enter Try.func23, Try.ntmps23
  go_wp2
  go_loop [6, 7, 8] (fun q _ _ => ∃ p : Nat, q = .int .i64 p ∧ i < p ∧ p ≤ n ∧ Hid (R = seek f i (n - p) p)) (fun q _ _ => n - (intOf q).toNat)
  case atStart => exact ⟨i + 1, by go_num, by omega, by omega, HR⟩
  case round =>
    obtain ⟨p, rfl, hip, hpn, HP⟩ := hrel
    by_cases hlt : p < n
    · have hcp := hc p hlt
      by_cases h34 : f p = 34
      · have H34 : Hid (f p = 34) := h34
        have h34' : (f p != 34) = false := by simp [h34]
        clear h34
        go_wp2
        go_loop [7, 8] (fun r k => ∃ t : Nat, k = .int .i64 t ∧ i ≤ t ∧ t < p ∧ r = .int .i64 ((p : Int) - 1 - t) ∧ Hid (runTo f i p = (p - 1 - t) + runTo f i (t + 1))) (fun _ k => (intOf k).toNat)
        case atStart => exact ⟨p - 1, by go_num, by omega, by omega, by go_num, by show _ = _; rw [show p - 1 + 1 = p from by omega]; omega⟩
        case round =>
          obtain ⟨t, rfl, hit, htp, rfl, HT⟩ := hrel
          have hct := hc t (by omega)
          by_cases hgo : i < t ∧ f t = 92
          · have H92 : Hid (f t = 92) := hgo.2
            have hit' : i < t := hgo.1
            have h92' : (f t == 92) = true := by simp [hgo.2]
            have HT' : Hid (runTo f i p = (p - 1 - (t - 1)) + runTo f i (t - 1 + 1)) := by
              have := HT.out
              rw [run_succ hgo.1 hgo.2] at this
              show _ = _
              rw [show t - 1 + 1 = t from by omega]; omega
            clear hgo
            go_wp2
            go_round
            case rel => exact ⟨t - 1, by go_num, by omega, by omega, by go_num, HT'⟩
            case measure => simp [intOf]; omega
          · have HR0 : Hid (runTo f i p = p - 1 - t) := by
              have := HT.out
              rw [run_stop (show ¬ i < t ∨ f t ≠ 92 from by by_cases h : i < t <;> simp_all)] at this
              exact this
            have hno : i < t → (f t == 92) = false := by
              intro h
              simp only [beq_eq_false_iff_ne, ne_eq]
              exact fun h' => hgo ⟨h, h'⟩
            clear hgo
            by_cases hev : (p - 1 - t) % 2 = 0
            · have HM : Hid (R = (p, true)) := HP.out.trans (seek_hit hlt H34.out (by rw [HR0.out]; exact hev))
              have hz : ((p : Int) - 1 - t) % 2 = 0 := by omega
              by_cases hit' : i < t
              all_goals
                try have hno' := hno hit'
                clear hno
                go_wp2
                go_ret2
                exact ⟨by rw [HM.out]; rfl, rfl⟩
            · have HM : Hid (R = seek f i (n - (p + 1)) (p + 1)) := HP.out.trans (seek_miss hlt (.inr (by rw [HR0.out]; exact hev)))
              have hz : ((p : Int) - 1 - t) % 2 = 1 := by omega
              by_cases hit' : i < t
              all_goals
                try have hno' := hno hit'
                clear hno
                go_wp2
                go_round
                case rel => exact ⟨p + 1, by go_num, by omega, by omega, HM⟩
                case measure => simp [intOf]; omega
      · have h34' : (f p != 34) = true := by simp [h34]
        have HM : Hid (R = seek f i (n - (p + 1)) (p + 1)) := HP.out.trans (seek_miss hlt (.inl h34))
        go_wp2
        go_round
        case rel => exact ⟨p + 1, by go_num, by omega, by omega, HM⟩
        case measure => simp [intOf]; omega
    · have e : p = n := by omega
      have HM : Hid (R = (0, false)) := by rw [HP.out, e, Nat.sub_self]; rfl
      clear e
      go_wp2
      go_ret2
      exact ⟨by rw [HM.out]; rfl, rfl⟩

/-! ### closingInDomain -/
theorem indom_out (a : Option Addr) (n c : Nat) (i : Int) (w : World) (hn : n ≤ 65536) (h : i < 0 ∨ (n : Int) ≤ i) :
    Calls Try.prog 15 #[.slice a n c, .int .i64 i] w fun e w' => e = .returned (.tuple #[.int .i64 0, .bool false]) ∧ w' = w := by
  by_cases h0 : i < 0
  · go_enter Try.func15, Try.ntmps15
    go_wp2
    go_ret2
    exact ⟨rfl, rfl⟩
  · have h1 : (n : Int) ≤ i := by omega
    clear h
    go_enter Try.func15, Try.ntmps15
    go_wp2
    go_ret2
    exact ⟨rfl, rfl⟩

theorem indom_ne (f : Nat → Int) (b off n c i : Nat) (w : World) (hn : n ≤ 65536) (hi : i < n) (h34 : f i ≠ 34)
    (hc : ∀ j, j < n → w.cell? ⟨b, off + j, none⟩ = some (.int .u8 (f j))) :
    Calls Try.prog 15 #[.slice (some ⟨b, off, none⟩) n c, .int .i64 i] w fun e w' => e = .returned (.tuple #[.int .i64 0, .bool false]) ∧ w' = w := by
  have hci := hc i hi
  have h34' : (f i != 34) = true := by simp [h34]
  go_enter Try.func15, Try.ntmps15
  go_wp2
  go_ret2
  exact ⟨rfl, rfl⟩

theorem indom_yes (f : Nat → Int) (b off n c i : Nat) (w : World) (hn : n ≤ 65536) (hi : i < n) (h34 : f i = 34)
    (hc : ∀ j, j < n → w.cell? ⟨b, off + j, none⟩ = some (.int .u8 (f j))) :
    Calls Try.prog 15 #[.slice (some ⟨b, off, none⟩) n c, .int .i64 i] w fun e w' => e = .returned (.tuple #[.int .i64 (seek f i (n - (i + 1)) (i + 1)).1, .bool (seek f i (n - (i + 1)) (i + 1)).2]) ∧ w' = w := by
  have hci := hc i hi
  have h34' : (f i != 34) = false := by simp [h34]
  clear h34
  go_enter Try.func15, Try.ntmps15
  go_wp2_with fail
  refine (model_any f b off n c i _ hn hi hc).mono ?_
  rintro e w' ⟨rfl, rfl⟩
  go_wp2
  go_ret2
  exact ⟨rfl, rfl⟩

end Go.Proofs.Qxb6602184a.Cq
