/-
  b1FirstFragmentNamed and b1SameInts.
-/
import Derived.Test.Qxb6602394aEnded
namespace Go.Proofs.Qxb6602394a.T
open Go.RowKit
set_option linter.unusedVariables false

theorem hide {p : Prop} (h : p) : Hid p := h

/-- What b1FirstFragmentNamed answers. -/
def fragNamed (fb : Nat → Bool) (nm : Nat → ByteArray) (n : Nat) (s : ByteArray) : Option Nat := if s.toList.isEmpty then none else fragIx fb nm n s

set_option maxHeartbeats 800000 in
theorem named_any (a0 : Option Addr) (n c0 : Nat) (a1 : Option Addr) (c1 : Nat) (fb : Nat → Bool) (nm : Nat → ByteArray) (s : ByteArray) (w : World) (hn : n ≤ 4096)
    (h0 : RowAt w a0 n (fun i => .bool (fb i))) (h1 : RowAt w a1 n (fun i => .string (nm i))) :
    Calls Try.prog 35 #[.slice a0 n c0, .slice a1 n c1, .string s] w fun e w' => e = .returned (.int .i64 (fragVal (fragNamed fb nm n s))) ∧ w = w' := by
  by_cases hs : s.toList.isEmpty = true
  · have HN : Hid (fragNamed fb nm n s = none) := by show _ = _; unfold fragNamed; rw [if_pos hs]
    go_enter Try.func35, Try.ntmps35
    go_wp2
    go_ret
    exact ⟨by rw [HN.out]; rfl, rfl⟩
  · have HN : Hid (fragNamed fb nm n s = fragIx fb nm n s) := by show _ = _; unfold fragNamed; rw [if_neg hs]
    go_enter Try.func35, Try.ntmps35
    go_wp2
    go_loopg [7] n (fun k i wr => ∃ p : Nat, k = n - p ∧ p ≤ n ∧ i = .int .i64 p ∧ fragIx fb nm p s = none ∧ w = wr)
    case atStart => exact ⟨0, rfl, Nat.zero_le _, rfl, rfl, rfl⟩
    case round =>
      obtain ⟨p, hk, hpn, rfl, hno, rfl⟩ := hrel
      have HK : Hid (gk = n - p) := hk
      clear hk
      by_cases hlt : p < n
      · obtain ⟨b0, o0, rfl, k0⟩ := h0 p hlt
        obtain ⟨b1, o1, rfl, k1⟩ := h1 p hlt
        have q0 : w.cell? ⟨b0, o0 + p, none⟩ = some (.bool (fb p)) := k0
        have q1 : w.cell? ⟨b1, o1 + p, none⟩ = some (.string (nm p)) := k1
        clear k0 k1
        cases hf : fb p with
        | false =>
          have HS := hide ((fragIx_same (fun h => by rw [hf] at h; cases h.1)).trans hno)
          rw [hf] at q0
          clear hno hf h0 h1
          go_wp2
          go_roundg (n - (p + 1))
          case measure => rw [HK.out]; omega
          case rel => exact ⟨p + 1, rfl, by omega, by go_num, HS.out, rfl⟩
        | true =>
          rw [hf] at q0
          by_cases he : nm p = s
          · have HF : Hid (fragIx fb nm n s = some p) := by
              show _ = _
              rw [← he] at hno ⊢
              exact fragIx_up (fragIx_new hno hf) n (by omega)
            clear hno hf h0 h1
            go_wp2
            go_ret
            exact ⟨by rw [HN.out, HF.out]; rfl, rfl⟩
          · have HS := hide ((fragIx_same (fun h => he h.2)).trans hno)
            have hbe : ((nm p).toList == s.toList) = false := by
              rw [beq_eq_false_iff_ne]
              intro e
              rw [ByteArray.toList_eq, ByteArray.toList_eq] at e
              exact he (WideShapes.bytes_inj e)
            clear hno hf h0 h1
            go_wp2
            go_roundg (n - (p + 1))
            case measure => rw [HK.out]; omega
            case rel => exact ⟨p + 1, rfl, by omega, by go_num, HS.out, rfl⟩
      · have e : p = n := by omega
        subst e
        clear h0 h1
        go_wp2
        go_ret
        exact ⟨by rw [HN.out, hno]; rfl, rfl⟩

set_option maxHeartbeats 800000 in
theorem same_any (v u : Value) (L : List Nat) (w : World) (hL : L.length ≤ 4096) (h0 : ListAt w v L) (h1 : ListAt w u L) :
    Calls Try.prog 16 #[v, u] w fun e w' => e = .returned (.bool true) ∧ ∃ z, w' = w.drewN z := by
  have q : ∀ (w : World) (a : Option Addr) (n c : Nat), (binOp .eql 32 (.slice a n c) (.slice none 0 0)).run Try.prog w = .ok (.bool a.isNone) w := fun w a n c => Lib.run_eql_slice_nil w 32 3 a n c 0 0 Try.underlying32
  rcases h0 with ⟨e0, rfl⟩ | ⟨e0, g0, cap0, rfl, k0⟩
  · rcases h1 with ⟨e1, rfl⟩ | ⟨e1, _⟩
    · clear e0 e1
      go_enter Try.func16, Try.ntmps16
      go_wp2
      go_loopg [5] 0 (fun k i wr => k = 0 ∧ i = .int .i64 0 ∧ w = wr)
      case atStart => exact ⟨rfl, rfl, rfl⟩
      case round =>
        obtain ⟨hk, rfl, rfl⟩ := hrel
        clear hk
        go_wp2
        go_ret
        exact ⟨rfl, 0, rfl⟩
    · exact absurd e0 e1
  · rcases h1 with ⟨e1, _⟩ | ⟨e1, g1, cap1, rfl, k1⟩
    · exact absurd e1 e0
    · obtain ⟨n, hn⟩ : ∃ n, n = L.length := ⟨_, rfl⟩
      rw [← hn] at k0 k1 hL ⊢
      clear e0 e1 hn
      go_enter Try.func16, Try.ntmps16
      go_wp2
      go_loopg [5] n (fun k i wr => ∃ p : Nat, k = n - p ∧ p ≤ n ∧ i = .int .i64 p ∧ ∃ z, wr = w.drewN z)
      case atStart => exact ⟨0, rfl, Nat.zero_le _, rfl, 0, rfl⟩
      case round =>
        obtain ⟨p, hk, hpn, rfl, z, rfl⟩ := hrel
        have HK := hide hk
        clear hk
        by_cases hlt : p < n
        · have q0 := k0 p hlt
          have q1 := k1 p hlt
          have i0 : (0 : Int) ≤ (p : Int) := by omega
          have i1 : (p : Int) < (n : Int) := by omega
          clear k0 k1
          go_wp2
          go_quiet (fail)
          go_wp2
          go_roundg (n - (p + 1))
          case measure => rw [HK.out]; omega
          case rel => exact ⟨p + 1, rfl, by omega, by go_num, _, rfl⟩
        · have e : p = n := by omega
          subst e
          clear k0 k1
          go_wp2
          go_ret
          exact ⟨rfl, z, rfl⟩

end Go.Proofs.Qxb6602394a.T
