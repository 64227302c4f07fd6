/-
  ZZAdd, and the law: each add answers as the scan of the script before it.
-/
import Derived.Test.Qxb6602447aAdd
namespace Go.Proofs.Qxb6602447a.T
open Go.RowKit
set_option linter.unusedVariables false

theorem zzAdd_any (M n L : Nat) (a b : Nat → Int) (mv : Option Nat) (F G : Int → Option Int) (x l : Int) (w : World) (hn : n < maxLen) (hx : (Lit.int .i64 x).wf = true) (h : Met w M n L a b mv F G) :
    Calls Try.prog 22 #[.pointer (some ⟨M, 0, none⟩), .int .i64 x, .int .i64 l] w fun e w' =>
      e = .returned (.tuple #[.int .i64 ((G x).getD 0), .bool (G x).isSome]) ∧ (∃ L' a' b' mv' F', Met w' M (n + 1) L' a' b' mv' F' (more G x l)) ∧ Below M w w' := by
  go_enter Try.func22, Try.ntmps22
  go_wp2_with fail
  refine (add_any M n L a b mv F G x l _ hn hx h).mono ?_
  rintro e w' ⟨rfl, hm, hb⟩
  go_wp2
  go_ret2
  exact ⟨rfl, hm, hb⟩

theorem Met.same {w w' : World} {M n L : Nat} {a b : Nat → Int} {mv : Option Nat} {F G : Int → Option Int} (h : Met w M n L a b mv F G) (hh : w'.heap = w.heap) : Met w' M n L a b mv F G :=
  ⟨h.le, World.rowIs.of_block h.row (by rw [hh]), h.few, h.no, fun mb e => ⟨(h.map mb e).1, (h.map mb e).2.kept (by rw [hh])⟩, h.all⟩

theorem met_new (w : World) : Met (w.alloc (.cells #[.int .i64 0, .int .i64 0, .int .i64 0, .int .i64 0, .int .i64 0, .int .i64 0, .int .i64 0, .int .i64 0, .int .i64 0, .int .i64 0, .int .i64 0, .int .i64 0, .int .i64 0, .int .i64 0, .int .i64 0, .int .i64 0, .int .i64 0, .map none] 40))
    w.heap.size 0 0 (fun _ => 0) (fun _ => 0) none (fun _ => none) (scan (fun _ => 0) (fun _ => 0) 0) := by
  refine ⟨by omega, ⟨_, Deep.blk_alloc_new _ _, rfl, fun i hi => ?_⟩, fun _ => rfl, fun _ _ => rfl, fun mb e => (by cases e), fun y => rfl⟩
  have : i < 18 := hi
  have hc : i = 0 ∨ i = 1 ∨ i = 2 ∨ i = 3 ∨ i = 4 ∨ i = 5 ∨ i = 6 ∨ i = 7 ∨ i = 8 ∨ i = 9 ∨ i = 10 ∨ i = 11 ∨ i = 12 ∨ i = 13 ∨ i = 14 ∨ i = 15 ∨ i = 16 ∨ i = 17 := by omega
  rcases hc with h | h | h | h | h | h | h | h | h | h | h | h | h | h | h | h | h | h <;> subst h <;> rfl

set_option maxRecDepth 100000 in
set_option maxHeartbeats 1600000 in
theorem law_any (X Y : Nat → Int) (a : Option Addr) (n c : Nat) (w : World) (hX : ∀ j, j < n → (Lit.int .i64 (X j)).wf = true) (h : PairsAt w a n X Y) :
    Calls Try.prog 8 #[.slice a n c] w fun e w' => e = .returned (.bool true) ∧ Below w.heap.size w w' := by
  go_enter Try.func8, Try.ntmps8
  go_wp2_with fail
  refine (bytes_any a n c _).mono ?_
  rintro e w' ⟨r, rfl, rfl, hr⟩
  cases r with
  | false =>
    go_wp2
    go_ret
    exact ⟨rfl, Below.refl _ _⟩
  | true =>
    have hn1 := hr rfl
    by_cases hn : n ≤ 4096
    · go_wp2_with fail
      refine (clone_any X Y a n c _ hn1 h).mono ?_
      rintro e w1 ⟨a1, c1, rfl, hP, hnew, hb1⟩
      clear h
      go_wp2
      go_loopg [4] n (fun k i wr => ∃ p : Nat, ∃ L a b mv F, k = n - p ∧ p ≤ n ∧ i = .int .i64 p ∧ Met wr w1.heap.size p L a b mv F (scan X Y p) ∧ Below w1.heap.size w1 wr)
      case atStart => exact ⟨0, _, _, _, _, _, rfl, Nat.zero_le _, rfl, met_new w1, (Below.refl _ _).alloc (Nat.le_refl _) _⟩
      case round =>
        obtain ⟨p, L, fa, fb, mv, F, hk, hpn, rfl, hm, hb⟩ := hrel
        have HK : Hid (gk = n - p) := hk
        clear hk
        by_cases hlt : p < n
        · obtain ⟨b, off, rfl, k0, k1⟩ := hP p hlt
          have hbl : b < w1.heap.size := lt_of_cell k0
          have q0 : wr.cell? ⟨b, off + p * 2, none⟩ = some (.int .i64 (X p)) := (hb.cell hbl).trans k0
          have q1 : wr.cell? ⟨b, off + p * 2 + 1, none⟩ = some (.int .i64 (Y p)) := (hb.cell hbl).trans k1
          have i0 : (0 : Int) ≤ (p : Int) := by omega
          have i1 : (p : Int) < (n : Int) := by omega
          have hXp := hX p hlt
          have hm0 := (World.rowIs.cell hm.row (show 0 < 18 by omega))
          go_wp2
          go_cut [5, 6] (fun x y wc => x = .int .i64 ((scan X Y p (X p)).getD 0) ∧ y = .bool (scan X Y p (X p)).isSome ∧ (∃ L' a' b' mv' F', Met wc w1.heap.size (p + 1) L' a' b' mv' F' (scan X Y (p + 1))) ∧ Below w1.heap.size w1 wc)
          case first =>
            have hmD : Met wr.drew w1.heap.size p L fa fb mv F (scan X Y p) := hm.kept (Below.refl _ _).drew
            have hbD : Below w1.heap.size w1 wr.drew := hb.drew
            have HD : Hid (Met wr.drew w1.heap.size p L fa fb mv F (scan X Y p)) := hmD
            clear hm hmD hm0 hP hnew hX
            go_region_held3 (fun w' => w'.cell? ⟨b, off + p * 2, none⟩ = some (.int .i64 (X p)) ∧ w'.cell? ⟨b, off + p * 2 + 1, none⟩ = some (.int .i64 (Y p)))
              (first | exact ⟨(hb2.cell hbl).trans q0, (hb2.cell hbl).trans q1⟩ | go_keep)
              (first | (go_at_call 22; refine (zzAdd_any w1.heap.size p L fa fb mv F (scan X Y p) (X p) (Y p) _ (by unfold maxLen; omega) hXp HD.out).mono ?_; rintro e w2 ⟨rfl, hm2, hb2⟩; have HM2 : Hid _ := hm2; clear hm2))
            go_wp2_with fail
            go_meet
            case rel => exact ⟨rfl, rfl, HM2.out, hbD.trans hb2⟩
          case rest =>
            obtain ⟨rfl, rfl, hm2, hbc⟩ := hcut
            have HM2 : Hid _ := hm2
            clear hm2 hm hm0 hb q0 q1 hnew hX k0 k1
            obtain ⟨g0, rfl⟩ : ∃ g0 : Nat, g0 = gk := ⟨_, rfl⟩
            go_wp2
            go_loopg [7, 8, 9] p (fun k u v i wq => ∃ q : Nat, k = p - q ∧ q ≤ p ∧ u = .int .i64 0 ∧ v = .bool false ∧ i = .int .i64 q ∧ scan X Y q (X p) = none ∧ wq.heap = wc.heap ∧ Below w1.heap.size w1 wq)
            case atStart => exact ⟨0, rfl, Nat.zero_le _, rfl, rfl, rfl, rfl, rfl, hbc⟩
            case round =>
              obtain ⟨q, hk, hqp, rfl, rfl, rfl, hsc, hheap, hbq⟩ := hrel
              have HK2 : Hid (gk = p - q) := hk
              clear hk
              have HH : Hid (wr.heap = wc.heap) := hheap
              clear hheap
              by_cases hq : q < p
              · obtain ⟨b', off', e', k0, k1⟩ := hP q (by omega)
                simp only [Option.some.injEq, Addr.mk.injEq, and_true] at e'
                obtain ⟨rfl, rfl⟩ := e'
                obtain ⟨b', off', e', r0, r1⟩ := hP p hlt
                simp only [Option.some.injEq, Addr.mk.injEq, and_true] at e'
                obtain ⟨rfl, rfl⟩ := e'
                have s0 : wr.cell? ⟨b, off + q * 2, none⟩ = some (.int .i64 (X q)) := (hbq.cell hbl).trans k0
                have s1 : wr.cell? ⟨b, off + q * 2 + 1, none⟩ = some (.int .i64 (Y q)) := (hbq.cell hbl).trans k1
                have s2 : wr.cell? ⟨b, off + p * 2, none⟩ = some (.int .i64 (X p)) := (hbq.cell hbl).trans r0
                have i2 : (0 : Int) ≤ (q : Int) := by omega
                have i3 : (q : Int) < (n : Int) := by omega
                by_cases hx : X q = X p
                · have hG := scan_had (scan_hit hsc hx) p (by omega)
                  rw [hG]
                  have HP : Hid _ := hP
                  clear hP k0 k1 r0 r1 hsc hG
                  go_wp2
                  go_quiet (fail)
                  go_wp2
                  go_roundg (n - (p + 1))
                  case measure => rw [HK.out]; omega
                  case rel =>
                    obtain ⟨L', a', b', mv', F', hm⟩ := HM2.out
                    exact ⟨p + 1, L', a', b', mv', F', rfl, by omega, by go_num, hm.same HH.out, below_drewN hbq _⟩
                · have HS := scan_miss hsc hx
                  clear hsc
                  have HP : Hid _ := hP
                  clear hP k0 k1 r0 r1
                  go_wp2
                  go_quiet (fail)
                  go_wp2
                  go_roundg (p - (q + 1))
                  case measure => rw [HK2.out]; omega
                  case rel => exact ⟨q + 1, rfl, by omega, rfl, rfl, by go_num, HS, HH.out, below_drewN hbq _⟩
              · have e : q = p := by omega
                subst e
                rw [hsc]
                go_wp2
                go_roundg (n - (q + 1))
                case measure => rw [HK.out]; omega
                case rel =>
                  obtain ⟨L', a', b', mv', F', hm⟩ := HM2.out
                  exact ⟨q + 1, L', a', b', mv', F', rfl, by omega, by go_num, hm.same HH.out, hbq⟩
        · have e : p = n := by omega
          subst e
          go_wp2
          go_ret
          exact ⟨rfl, hb1.trans (hb.mono hb1.size)⟩
    · go_wp2
      go_ret
      exact ⟨rfl, Below.refl _ _⟩

end Go.Proofs.Qxb6602447a.T
