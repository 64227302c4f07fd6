/-
  b1SameInts at longer lists; rows' lengths.
-/
import Derived.Test.Qxb6602394aSmall
namespace Go.Proofs.Qxb6602394a.T
open Go.RowKit
set_option linter.unusedVariables false

theorem RowsAt.lens' {w : World} {a : Option Addr} {n : Nat} {A : Nat → Option Addr} {m m' C : Nat → Nat} {V : Nat → Nat → Value} (h : RowsAt w a n A m C V) (e : ∀ i, i < n → m i = m' i) : RowsAt w a n A m' C V :=
  ⟨h.outer.congr (fun i hi => by rw [e i hi]), fun i hi => by rw [← e i hi]; exact h.inner i hi⟩

set_option maxHeartbeats 800000 in
theorem same_big (v u : Value) (L : List Nat) (w : World) (hL : L.length ≤ 268435456) (h0 : ListAt w v L) (h1 : ListAt w u L) :
    Calls Try.prog 16 #[v, u] w fun e w' => e = .returned (.bool true) ∧ ∃ z, w' = w.drewN z := by
  have q : ∀ (w : World) (a : Option Addr) (n c : Nat), (binOp .eql 32 (.slice a n c) (.slice none 0 0)).run Try.prog w = .ok (.bool a.isNone) w := fun w a n c => Lib.run_eql_slice_nil w 32 3 a n c 0 0 Try.underlying32
  rcases h0 with ⟨e0, rfl⟩ | ⟨e0, g0, cap0, rfl, k0⟩
  · rcases h1 with ⟨e1, rfl⟩ | ⟨e1, _⟩
    · clear e0 e1
      go_enter Try.func16, Try.ntmps16
      go_wp2
      go_loopg [5] 0 (fun k i wr => k = 0 ∧ i = .int .i64 0 ∧ w = wr)
      case atStart => exact ⟨rfl, rfl, rfl⟩
      case round =>
        obtain ⟨hk, rfl, rfl⟩ := hrel
        clear hk
        go_wp2
        go_ret
        exact ⟨rfl, 0, rfl⟩
    · exact absurd e0 e1
  · rcases h1 with ⟨e1, _⟩ | ⟨e1, g1, cap1, rfl, k1⟩
    · exact absurd e1 e0
    · obtain ⟨n, hn⟩ : ∃ n, n = L.length := ⟨_, rfl⟩
      rw [← hn] at k0 k1 hL ⊢
      clear e0 e1 hn
      go_enter Try.func16, Try.ntmps16
      go_wp2
      go_loopg [5] n (fun k i wr => ∃ p : Nat, k = n - p ∧ p ≤ n ∧ i = .int .i64 p ∧ ∃ z, wr = w.drewN z)
      case atStart => exact ⟨0, rfl, Nat.zero_le _, rfl, 0, rfl⟩
      case round =>
        obtain ⟨p, hk, hpn, rfl, z, rfl⟩ := hrel
        have HK := hide hk
        clear hk
        by_cases hlt : p < n
        · have q0 := k0 p hlt
          have q1 := k1 p hlt
          have i0 : (0 : Int) ≤ (p : Int) := by omega
          have i1 : (p : Int) < (n : Int) := by omega
          clear k0 k1
          go_wp2
          go_quiet (fail)
          go_wp2
          go_roundg (n - (p + 1))
          case measure => rw [HK.out]; omega
          case rel => exact ⟨p + 1, rfl, by omega, by go_num, _, rfl⟩
        · have e : p = n := by omega
          subst e
          clear k0 k1
          go_wp2
          go_ret
          exact ⟨rfl, z, rfl⟩

end Go.Proofs.Qxb6602394a.T
