/-
  THE GUARDS THAT COUNT LENGTHS (zzBytes_..), made by gen/zzbytes.py: they return, they write nothing; where they answer true no inner slice of 'parent' is longer than 1048576.
-/
import Derived.Test.Qxb6602394aBase
namespace Go.Proofs.Qxb6602394a.T
open Go.RowKit
set_option linter.unusedVariables false

set_option maxRecDepth 100000 in
set_option maxHeartbeats 3200000 in
theorem zzBytes_reach (a0 : Option Addr) (n0 c0 : Nat) (a1 : Option Addr) (n1 c1 : Nat) (s1 : Nat → ByteArray) (a2 : Option Addr) (n2 c2 : Nat) (A2 : Nat → Option Addr) (m2 C2 : Nat → Nat) (v2 : Nat → Nat → Int)
    (a3 : Option Addr) (n3 c3 : Nat) (A3 : Nat → Option Addr) (m3 C3 : Nat → Nat) (s3 : Nat → Nat → ByteArray) (a4 : Option Addr) (n4 c4 : Nat) (A4 : Nat → Option Addr) (m4 C4 : Nat → Nat) (s4 : Nat → Nat → ByteArray) (cl : Int) (w : World)
    (l0 : n0 ≤ 9223372036854775807) (l1 : n1 ≤ 9223372036854775807) (l2 : n2 ≤ 9223372036854775807) (l3 : n3 ≤ 9223372036854775807) (l4 : n4 ≤ 9223372036854775807)
    (h1 : RowAt w a1 n1 (fun i => .string (s1 i))) (h2 : RowsAt w a2 n2 A2 m2 C2 (fun i j => .int .i64 (v2 i j))) (h3 : RowsAt w a3 n3 A3 m3 C3 (fun i j => .string (s3 i j))) (h4 : RowsAt w a4 n4 A4 m4 C4 (fun i j => .string (s4 i j))) :
    Calls Try.prog 17 #[.slice a0 n0 c0, .slice a1 n1 c1, .slice a2 n2 c2, .slice a3 n3 c3, .slice a4 n4 c4, .int .i64 cl] w fun e w' => Answers e w w' (∀ i, i < n2 → m2 i ≤ 1048576) := by
  go_enter Try.func17, Try.ntmps17
  go_wp2
  all_goals try (go_ret; exact Answers.no)
  obtain ⟨wo, rfl⟩ : ∃ wo : World, wo = w := ⟨_, rfl⟩
  go_loopg [13, 14] n1 (fun k t i wr => ∃ p : Nat, ∃ tt : Int, k = n1 - p ∧ p ≤ n1 ∧ i = .int .i64 p ∧ t = .int .i64 tt ∧ wr = wo)
  case atStart => exact ⟨0, _, rfl, Nat.zero_le _, rfl, rfl, rfl⟩
  case round =>
    obtain ⟨p, tt, hk, hpn, rfl, rfl, rfl⟩ := hrel
    have HK : Hid (gk = n1 - p) := hk
    clear hk
    by_cases hlt : p < n1
    · obtain ⟨b, off, rfl, hc0⟩ := h1 p hlt
      have hc : wr.cell? ⟨b, off + p, none⟩ = some (.string (s1 p)) := hc0
      clear h1 hc0
      generalize s1 p = str at *
      go_wp2
      all_goals first | (go_ret; exact Answers.no) | skip
      go_roundg (n1 - (p + 1))
      case measure => rw [HK.out]; omega
      case rel => exact ⟨p + 1, _, rfl, by omega, by go_num, rfl, rfl⟩
    · clear h1 HK
      go_wp2
      all_goals try (go_ret; exact Answers.no)
      obtain ⟨wo, rfl⟩ : ∃ wo : World, wo = wr := ⟨_, rfl⟩
      go_loopg [13, 15] n2 (fun k t i wr => ∃ p : Nat, ∃ tt : Int, k = n2 - p ∧ p ≤ n2 ∧ i = .int .i64 p ∧ t = .int .i64 tt ∧ wr = wo ∧ Hid (∀ i, i < p → m2 i ≤ 1048576))
      case atStart => exact ⟨0, _, rfl, Nat.zero_le _, rfl, rfl, rfl, fun i hi => by omega⟩
      case round =>
        obtain ⟨p, tt, hk, hpn, rfl, rfl, rfl, HB⟩ := hrel
        have HK : Hid (gk = n2 - p) := hk
        clear hk
        by_cases hlt : p < n2
        · obtain ⟨b, off, rfl, hc0⟩ := h2.outer p hlt
          have hc : wr.cell? ⟨b, off + p, none⟩ = some (.slice (A2 p) (m2 p) (C2 p)) := hc0
          clear h2 hc0
          by_cases hm : m2 p ≤ 1048576
          · have HB' : Hid (∀ i, i < p + 1 → m2 i ≤ 1048576) := fun i hi => by
              by_cases e : i = p
              · rw [e]; exact hm
              · exact HB.out i (by omega)
            clear HB
            go_wp2
            all_goals first | (go_ret; exact Answers.no) | skip
            go_roundg (n2 - (p + 1))
            case measure => rw [HK.out]; omega
            case rel => exact ⟨p + 1, _, rfl, by omega, by go_num, rfl, rfl, HB'⟩
          · clear HB
            go_wp2
            go_ret
            exact Answers.no
        · have HB' : Hid (∀ i, i < n2 → m2 i ≤ 1048576) := fun i hi => HB.out i (by omega)
          clear h2 HB HK
          go_wp2
          all_goals try (go_ret; exact Answers.no)
          obtain ⟨wo, rfl⟩ : ∃ wo : World, wo = wr := ⟨_, rfl⟩
          go_loopg [13, 16, 17] n3 (fun k t i _ wr => ∃ p : Nat, ∃ tt : Int, k = n3 - p ∧ p ≤ n3 ∧ i = .int .i64 p ∧ t = .int .i64 tt ∧ wr = wo)
          case atStart => exact ⟨0, _, rfl, Nat.zero_le _, rfl, rfl, rfl⟩
          case round =>
            obtain ⟨p, tt, hk, hpn, rfl, rfl, rfl⟩ := hrel
            have HK : Hid (gk = n3 - p) := hk
            clear hk
            by_cases hlt : p < n3
            · obtain ⟨b, off, rfl, hc0⟩ := h3.outer p hlt
              have hin := h3.inner p hlt
              have hc : wr.cell? ⟨b, off + p, none⟩ = some (.slice (A3 p) (m3 p) (C3 p)) := hc0
              clear h3 hc0
              generalize A3 p = ap at *
              generalize m3 p = mp at *
              generalize C3 p = cp at *
              generalize s3 p = sp at *
              go_wp2
              all_goals try (go_ret; exact Answers.no)
              obtain ⟨wo, rfl⟩ : ∃ wo : World, wo = wr := ⟨_, rfl⟩
              obtain ⟨g0, rfl⟩ : ∃ g0 : Nat, g0 = gk := ⟨_, rfl⟩
              go_loopg [13, 17] mp (fun k t i wr => ∃ q : Nat, ∃ tt : Int, k = mp - q ∧ q ≤ mp ∧ i = .int .i64 q ∧ t = .int .i64 tt ∧ wr = wo)
              case atStart => exact ⟨0, _, rfl, Nat.zero_le _, rfl, rfl, rfl⟩
              case round =>
                obtain ⟨q, t2, hk2, hqm, rfl, rfl, rfl⟩ := hrel
                have HK2 : Hid (gk = mp - q) := hk2
                clear hk2
                by_cases hq : q < mp
                · obtain ⟨b2, off2, rfl, hc2⟩ := hin q hq
                  have hs : wr.cell? ⟨b2, off2 + q, none⟩ = some (.string (sp q)) := hc2
                  clear hc2 hin
                  generalize sp q = str at *
                  go_wp2
                  all_goals first | (go_ret; exact Answers.no) | skip
                  go_roundg (mp - (q + 1))
                  case measure => rw [HK2.out]; omega
                  case rel => exact ⟨q + 1, _, rfl, by omega, by go_num, rfl, rfl⟩
                · go_wp2
                  go_roundg (n3 - (p + 1))
                  case measure => rw [HK.out]; omega
                  case rel => exact ⟨p + 1, _, rfl, by omega, by go_num, rfl, rfl⟩
            · clear h3 HK
              go_wp2
              all_goals try (go_ret; exact Answers.no)
              obtain ⟨wo, rfl⟩ : ∃ wo : World, wo = wr := ⟨_, rfl⟩
              go_loopg [13, 18, 19] n4 (fun k t i _ wr => ∃ p : Nat, ∃ tt : Int, k = n4 - p ∧ p ≤ n4 ∧ i = .int .i64 p ∧ t = .int .i64 tt ∧ wr = wo)
              case atStart => exact ⟨0, _, rfl, Nat.zero_le _, rfl, rfl, rfl⟩
              case round =>
                obtain ⟨p, tt, hk, hpn, rfl, rfl, rfl⟩ := hrel
                have HK : Hid (gk = n4 - p) := hk
                clear hk
                by_cases hlt : p < n4
                · obtain ⟨b, off, rfl, hc0⟩ := h4.outer p hlt
                  have hin := h4.inner p hlt
                  have hc : wr.cell? ⟨b, off + p, none⟩ = some (.slice (A4 p) (m4 p) (C4 p)) := hc0
                  clear h4 hc0
                  generalize A4 p = ap at *
                  generalize m4 p = mp at *
                  generalize C4 p = cp at *
                  generalize s4 p = sp at *
                  go_wp2
                  all_goals try (go_ret; exact Answers.no)
                  obtain ⟨wo, rfl⟩ : ∃ wo : World, wo = wr := ⟨_, rfl⟩
                  obtain ⟨g0, rfl⟩ : ∃ g0 : Nat, g0 = gk := ⟨_, rfl⟩
                  go_loopg [13, 19] mp (fun k t i wr => ∃ q : Nat, ∃ tt : Int, k = mp - q ∧ q ≤ mp ∧ i = .int .i64 q ∧ t = .int .i64 tt ∧ wr = wo)
                  case atStart => exact ⟨0, _, rfl, Nat.zero_le _, rfl, rfl, rfl⟩
                  case round =>
                    obtain ⟨q, t2, hk2, hqm, rfl, rfl, rfl⟩ := hrel
                    have HK2 : Hid (gk = mp - q) := hk2
                    clear hk2
                    by_cases hq : q < mp
                    · obtain ⟨b2, off2, rfl, hc2⟩ := hin q hq
                      have hs : wr.cell? ⟨b2, off2 + q, none⟩ = some (.string (sp q)) := hc2
                      clear hc2 hin
                      generalize sp q = str at *
                      go_wp2
                      all_goals first | (go_ret; exact Answers.no) | skip
                      go_roundg (mp - (q + 1))
                      case measure => rw [HK2.out]; omega
                      case rel => exact ⟨q + 1, _, rfl, by omega, by go_num, rfl, rfl⟩
                    · go_wp2
                      go_roundg (n4 - (p + 1))
                      case measure => rw [HK.out]; omega
                      case rel => exact ⟨p + 1, _, rfl, by omega, by go_num, rfl, rfl⟩
                · clear h4 HK
                  go_wp2
                  go_ret
                  exact Answers.yes HB'.out

end Go.Proofs.Qxb6602394a.T
