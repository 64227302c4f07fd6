/-
  FnNewSelectionTreeMatchesModel: the law's walk.
-/
import Derived.Test.Qxb6602394aBytesTree
import Derived.Test.Qxb6602394aGuards
import Derived.Test.Qxb6602394aParts
import Derived.Test.Qxb6602394aModel
namespace Go.Proofs.Qxb6602394a.T
open Go.RowKit
set_option linter.unusedVariables false

theorem own_lt_iff {m : Nat → Nat} {n x i : Nat} (hx : x < first m n) : own m n x < i ↔ x < first m i := by
  obtain ⟨h1, h2, h3⟩ := own_lt n x hx
  constructor
  · intro h
    have := first_mono (m := m) (show own m n x + 1 ≤ i from h)
    omega
  · intro h
    rcases Nat.lt_or_ge (own m n x) i with h' | h'
    · exact h'
    · have := first_mono (m := m) h'
      omega

theorem RowsAt.lens {w : World} {a : Option Addr} {n : Nat} {A : Nat → Option Addr} {m m' C : Nat → Nat} {V : Nat → Nat → Value} (h : RowsAt w a n A m C V) (e : ∀ i, i < n → m i = m' i) : RowsAt w a n A m' C V :=
  ⟨h.outer.congr (fun i hi => by rw [e i hi]), fun i hi => by rw [← e i hi]; exact h.inner i hi⟩

set_option maxRecDepth 100000 in
set_option maxHeartbeats 3200000 in
theorem treeLaw_any (a0 : Option Addr) (n0 c0 : Nat) (fb : Nat → Bool) (a1 : Option Addr) (n1 c1 : Nat) (nm : Nat → ByteArray) (a2 : Option Addr) (n2 c2 : Nat) (A2 : Nat → Option Addr) (m2 C2 : Nat → Nat) (par : Nat → Nat → Int)
    (a3 : Option Addr) (n3 c3 : Nat) (A3 : Nat → Option Addr) (m3 C3 : Nat → Nat) (ky : Nat → Nat → ByteArray) (a4 : Option Addr) (n4 c4 : Nat) (A4 : Nat → Option Addr) (m4 C4 : Nat → Nat) (fg : Nat → Nat → ByteArray) (w : World)
    (l0 : n0 ≤ 9223372036854775807) (l1 : n1 ≤ 9223372036854775807) (l2 : n2 ≤ 9223372036854775807) (l3 : n3 ≤ 9223372036854775807) (l4 : n4 ≤ 9223372036854775807)
    (hs : ∀ i, i < n1 → (nm i).size ≤ maxLen) (hfs : ∀ i j, i < n4 → j < m4 i → (fg i j).size ≤ maxLen)
    (h0 : RowAt w a0 n0 (fun i => .bool (fb i))) (h1 : RowAt w a1 n1 (fun i => .string (nm i))) (h2 : RowsAt w a2 n2 A2 m2 C2 (fun i j => .int .i64 (par i j))) (h3 : RowsAt w a3 n3 A3 m3 C3 (fun i j => .string (ky i j))) (h4 : RowsAt w a4 n4 A4 m4 C4 (fun i j => .string (fg i j))) :
    Calls Try.prog 3 #[.slice a0 n0 c0, .slice a1 n1 c1, .slice a2 n2 c2, .slice a3 n3 c3, .slice a4 n4 c4] w fun e w' => e = .returned (.bool true) ∧ Below w.heap.size w w' := by
  go_enter Try.func3, Try.ntmps3
  go_wp2_with fail
  refine (zzBytes_tree a0 n0 c0 a1 n1 c1 nm a2 n2 c2 A2 m2 C2 par a3 n3 c3 A3 m3 C3 ky a4 n4 c4 A4 m4 C4 fg w l0 l1 l2 l3 l4 h1 h2 h3 h4).mono ?_
  rintro e w' ⟨r, rfl, rfl, hr⟩
  cases r with
  | false =>
    clear h0 h1 h2 h3 h4 hr
    go_wp2
    go_ret
    exact ⟨rfl, Below.refl _ _⟩
  | true =>
    have hm := hr rfl
    clear hr
    by_cases hbig : n0 ≤ 4096 ∧ n1 ≤ 4096 ∧ n2 ≤ 4096 ∧ n3 ≤ 4096 ∧ n4 ≤ 4096
    · obtain ⟨k0, k1, k2, k3, k4⟩ := hbig
      go_wp2_with fail
      refine (defsBytes_any a0 n0 c0 a1 n1 c1 nm a2 n2 c2 A2 m2 C2 par a3 n3 c3 A3 m3 C3 ky a4 n4 c4 A4 m4 C4 fg w k0 k1 k2 k3 k4 h1 h2 h3 h4).mono ?_
      rintro e w' ⟨⟨r, rfl⟩, rfl⟩
      by_cases hr : 1048576 < r
      · clear h0 h1 h2 h3 h4 hm
        go_wp2
        go_ret
        exact ⟨rfl, Below.refl _ _⟩
      · go_wp2_with fail
        refine (wellFormed_any a0 n0 c0 a1 n1 c1 a2 n2 c2 A2 m2 C2 par a3 n3 c3 A3 m3 C3 ky a4 n4 c4 A4 m4 C4 fg w k0 hm h2 h3 h4).mono ?_
        rintro e w' ⟨r2, rfl, rfl, hr2⟩
        cases r2 with
        | false =>
          clear h0 h1 h2 h3 h4 hm hr2
          go_wp2
          go_ret
          exact ⟨rfl, Below.refl _ _⟩
        | true =>
          have hok := hr2 rfl
          clear hr2
          obtain ⟨e1, e2, e3, e4, each, hall⟩ := hok
          have e1 := e1.symm
          have e2 := e2.symm
          have e3 := e3.symm
          have e4 := e4.symm
          subst e1 e2 e3 e4
          have h3' := h3.lens (fun i hi => (each i hi).1)
          have h4' := h4.lens (fun i hi => (each i hi).2.1)
          have hpar : ∀ i j, i < n0 → j < m2 i → par i j < (m2 i : Int) := fun i j hi hj => (each i hi).2.2 j hj
          have hfs' : ∀ i j, i < n0 → j < m2 i → (fg i j).size ≤ maxLen := fun i j hi hj => hfs i j hi (by rw [(each i hi).2.1]; exact hj)
          clear each h3 h4 hfs l0 l1 l2 l3 l4 k1 k2 k3 k4 hr
          go_wp2_with fail
          refine (cloneBools_any _ a0 n0 c0 w (by omega) h0 (fun _ => rfl)).mono ?_
          rintro e w1 ⟨b0, d0, rfl, p0, _, hb1⟩
          go_wp2_with fail
          refine (cloneStrings_any _ a1 n0 c1 w1 (by omega) (h1.below hb1) (fun _ => rfl)).mono ?_
          rintro e w2 ⟨b1, d1, rfl, p1, _, hb2⟩
          have hc2 := hb1.trans (hb2.mono hb1.size)
          go_wp2_with fail
          refine (cloneIntss_any _ a2 n0 c2 A2 m2 C2 w2 (by omega) hm (h2.below hc2) (fun _ _ => rfl)).mono ?_
          rintro e w3 ⟨b2, d2, B2, D2, rfl, p2, hb3⟩
          have hc3 := hc2.trans (hb3.mono hc2.size)
          go_wp2_with fail
          refine (cloneStringss_any _ a3 n0 c3 A3 m2 C3 w3 (by omega) hm (h3'.below hc3) (fun _ _ => rfl)).mono ?_
          rintro e w4 ⟨b3, d3, B3, D3, rfl, p3, hb4⟩
          have hc4 := hc3.trans (hb4.mono hc3.size)
          go_wp2_with fail
          refine (cloneStringss_any _ a4 n0 c4 A4 m2 C4 w4 (by omega) hm (h4'.below hc4) (fun _ _ => rfl)).mono ?_
          rintro e w5 ⟨b4, d4, B4, D4, rfl, p4, hb5⟩
          have hc5 := hc4.trans (hb5.mono hc4.size)
          have x4 : Below w4.heap.size w4 w5 := hb5
          have x3 : Below w3.heap.size w3 w5 := hb4.trans (hb5.mono hb4.size)
          have x2 : Below w2.heap.size w2 w5 := hb3.trans (x3.mono hb3.size)
          have x1 : Below w1.heap.size w1 w5 := hb2.trans (x2.mono hb2.size)
          have r0 := p0.below x1
          have r1 := p1.below x2
          have r2 := p2.below x3
          have r3 := p3.below x4
          clear h0 h1 h2 h3' h4' p0 p1 p2 p3 hb1 hb2 hb3 hb4 hb5 hc2 hc3 hc4 x1 x2 x3 x4
          go_wp2_with fail
          refine (parts_any b0 n0 d0 b1 d1 b2 d2 B2 m2 D2 b3 d3 B3 D3 b4 d4 B4 D4 fb nm par ky fg w5 k0 hm hall hs hpar hfs' r0 r1 r2 r3 p4).mono ?_
          rintro e w6 ⟨K, Sp, FB, H, R, F, HV, RV, rfl, hT, hb6⟩
          have hc6 := hc5.trans (hb6.mono hc5.size)
          have r0' := r0.below hb6
          have r1' := r1.below hb6
          have r2' := r2.below hb6
          have r3' := r3.below hb6
          have r4' := p4.below hb6
          clear r0 r1 r2 r3 p4 hc5 hb6
          unfold sixParts
          go_wp2_with fail
          refine (model_any b0 n0 d0 b1 d1 b2 d2 B2 m2 D2 b4 d4 B4 D4 fb nm par fg w6 k0 hall r0' r1' r2' r4').mono ?_
          rintro e w7 ⟨vo, vl, MR, MF, MH, MRV, MHV, rfl, hM, hb7⟩
          obtain ⟨ao, co, hvo, _⟩ := hM.o.row
          obtain ⟨al, cl, hvl, _⟩ := hM.l.row
          rw [ownersTo_length] at hvo
          rw [localsTo_length] at hvl
          subst hvo hvl
          obtain ⟨w8, hw8⟩ : ∃ w8, w8 = w7.alloc (.cells #[.int .i64 (first m2 n0 : Int), .slice ao (first m2 n0) co, .slice al (first m2 n0) cl, rowOf MF (first m2 n0), rowOf MH (first m2 n0), rowOf MR n0] 36) := ⟨_, rfl⟩
          have hb8 : Below w7.heap.size w7 w8 := by rw [hw8]; exact (Below.refl _ _).alloc (Nat.le_refl _) _
          have hc8 : Below w6.heap.size w6 w8 := hb7.trans (hb8.mono hb7.size)
          have s2 := r2'.below hc8
          have s3 := r3'.below hc8
          have s4 := r4'.below hc8
          have hT8 := hT.below hc8
          have hM8 := hM.below hb8
          have hcc := hc6.trans (hc8.mono hc6.size)
          obtain ⟨Bm, hBm⟩ : ∃ Bm, Bm = w7.heap.size := ⟨_, rfl⟩
          have m0 : w8.cell? ⟨Bm, 0, none⟩ = some (.int .i64 (first m2 n0 : Int)) := by rw [hw8, hBm]; simp
          have m1 : w8.cell? ⟨Bm, 1, none⟩ = some (.slice ao (first m2 n0) co) := by rw [hw8, hBm]; simp
          have m2' : w8.cell? ⟨Bm, 2, none⟩ = some (.slice al (first m2 n0) cl) := by rw [hw8, hBm]; simp
          have m3' : w8.cell? ⟨Bm, 3, none⟩ = some (rowOf MF (first m2 n0)) := by rw [hw8, hBm]; simp
          have m4' : w8.cell? ⟨Bm, 4, none⟩ = some (rowOf MH (first m2 n0)) := by rw [hw8, hBm]; simp
          have m5' : w8.cell? ⟨Bm, 5, none⟩ = some (rowOf MR n0) := by rw [hw8, hBm]; simp
          have HW8 := hide hw8
          have HBm := hide hBm
          have HT := hide hT8
          have HM := hide hM8
          have S2 := hide s2
          have S3 := hide s3
          have S4 := hide s4
          clear hM hT r0' r1' r2' r3' r4' hb7 hb8 hc8 hc6 hT8 hM8 s2 s3 s4 hw8 hBm hs hfs' hpar
          go_wp2
          rw [← HBm.out, ← HW8.out]
          clear HW8 HBm
          go_loopg [18, 19, 20] (n0 + 1) (fun k i _ _ wr => ∃ p : Nat, k = n0 + 1 - p ∧ p ≤ n0 + 1 ∧ i = .int .i64 p ∧ w8 = wr)
          case atStart => exact ⟨0, rfl, Nat.zero_le _, rfl, rfl⟩
          case round =>
            obtain ⟨p, hk, hpn, rfl, rfl⟩ := hrel
            have HK := hide hk
            clear hk
            by_cases hp : p ≤ n0
            · as_aux_lemma =>
              have f1 := HT.out.firsts p hp
              have pi0 : (0 : Int) ≤ (p : Int) := by omega
              have pi1 : (p : Int) < (n0 : Int) + 1 := by omega
              go_wp2
              obtain ⟨g0, rfl⟩ : ∃ g0 : Nat, g0 = gk := ⟨_, rfl⟩
              go_loopg [19, 20] (first m2 n0) (fun k c i wr => ∃ x : Nat, k = first m2 n0 - x ∧ x ≤ first m2 n0 ∧ c = .int .i64 ((if x < first m2 p then x else first m2 p : Nat) : Int) ∧ i = .int .i64 x ∧ w8 = wr)
              case atStart => exact ⟨0, rfl, Nat.zero_le _, by by_cases e : 0 < first m2 p <;> simp [e]; omega, rfl, rfl⟩
              case round =>
                obtain ⟨x, hk2, hx, rfl, rfl, rfl⟩ := hrel
                have HK2 := hide hk2
                clear hk2
                by_cases hxl : x < first m2 n0
                · obtain ⟨bo, oo, rfl, ko⟩ := owners_row HM.out.o x hxl
                  have qo : w8.cell? ⟨bo, oo + x, none⟩ = some (.int .i64 (own m2 n0 x : Int)) := ko
                  have hiff := own_lt_iff (m := m2) (n := n0) (x := x) (i := p) hxl
                  have xi0 : (0 : Int) ≤ (x : Int) := by omega
                  have xi1 : (x : Int) < (first m2 n0 : Int) := by omega
                  clear ko
                  by_cases hop : own m2 n0 x < p
                  · have hx1 := hiff.1 hop
                    rw [if_pos hx1]
                    have HN : Hid ((if x + 1 < first m2 p then x + 1 else first m2 p) = x + 1) := by
                      show _ = _
                      by_cases e : x + 1 < first m2 p
                      · rw [if_pos e]
                      · rw [if_neg e]; omega
                    clear hiff
                    generalize own m2 n0 x = ox at *
                    go_wp2
                    go_roundg (first m2 n0 - (x + 1))
                    case measure => rw [HK2.out]; omega
                    case rel => exact ⟨x + 1, rfl, by omega, by rw [HN.out]; go_num, by go_num, rfl⟩
                  · have hx1 : ¬ x < first m2 p := fun h => hop (hiff.2 h)
                    rw [if_neg hx1]
                    have HN : Hid ((if x + 1 < first m2 p then x + 1 else first m2 p) = first m2 p) := by
                      show _ = _
                      rw [if_neg (by omega)]
                    clear hiff
                    generalize own m2 n0 x = ox at *
                    go_wp2
                    go_roundg (first m2 n0 - (x + 1))
                    case measure => rw [HK2.out]; omega
                    case rel => exact ⟨x + 1, rfl, by omega, by rw [HN.out], by go_num, rfl⟩
                · have ex : x = first m2 n0 := by omega
                  subst ex
                  have hpm := first_mono (m := m2) hp
                  rw [show (if first m2 n0 < first m2 p then first m2 n0 else first m2 p) = first m2 p by rw [if_neg (by omega)]]
                  go_wp2
                  go_roundg (n0 + 1 - (p + 1))
                  case measure => rw [HK.out]; omega
                  case rel => exact ⟨p + 1, rfl, by omega, by go_num, rfl⟩
            · as_aux_lemma =>
              have ep : p = n0 + 1 := by omega
              subst ep
              go_wp2
              go_loopg [21, 22, 23] (first m2 n0) (fun k i _ _ wr => ∃ x : Nat, ∃ z : Nat, k = first m2 n0 - x ∧ x ≤ first m2 n0 ∧ i = .int .i64 x ∧ wr = w8.drewN z)
              case atStart => exact ⟨0, 0, rfl, Nat.zero_le _, rfl, rfl⟩
              case round =>
                obtain ⟨x, z, hk2, hx, rfl, hwr⟩ := hrel
                have HK2 := hide hk2
                clear hk2
                have hbw : Below w8.heap.size w8 wr := by rw [hwr]; exact below_drewN (Below.refl _ _) _
                have HWR := hide hwr
                clear hwr
                have m0 := (hbw.cell (lt_of_cell m0)).trans m0
                by_cases hxl : x < first m2 n0
                · as_aux_lemma =>
                  have HT := hide (HT.out.below hbw)
                  have HM := hide (HM.out.below hbw)
                  have S3 := hide (S3.out.below hbw)
                  have S4 := hide (S4.out.below hbw)
                  have m1 := (hbw.cell (lt_of_cell m1)).trans m1
                  have m2' := (hbw.cell (lt_of_cell m2')).trans m2'
                  have m3' := (hbw.cell (lt_of_cell m3')).trans m3'
                  have m4' := (hbw.cell (lt_of_cell m4')).trans m4'
                  have how := own_lt n0 x hxl
                  have hlw := loc_lt hxl
                  have t1 := HT.out.keys x hxl
                  have t2 := HT.out.spreads x hxl
                  have t3 := HT.out.frags x hxl
                  have t4 := HT.out.heldAt x hxl
                  have u3 := HM.out.f x hxl
                  have u4 := HM.out.heldAt x hxl
                  obtain ⟨bo, oo, rfl, ko⟩ := owners_row HM.out.o x hxl
                  obtain ⟨bl, ol, rfl, kl⟩ := locals_row HM.out.l x hxl
                  obtain ⟨e3, o3, rfl, y3⟩ := S3.out.outer (own m2 n0 x) how.1
                  obtain ⟨e4, o4, rfl, y4⟩ := S4.out.outer (own m2 n0 x) how.1
                  obtain ⟨f3, p3, h3, v3⟩ := S3.out.inner (own m2 n0 x) how.1 (loc m2 n0 x) hlw.1
                  obtain ⟨f4, p4, h4, v4⟩ := S4.out.inner (own m2 n0 x) how.1 (loc m2 n0 x) hlw.1
                  have qo : wr.cell? ⟨bo, oo + x, none⟩ = some (.int .i64 (own m2 n0 x : Int)) := ko
                  have ql : wr.cell? ⟨bl, ol + x, none⟩ = some (.int .i64 (loc m2 n0 x : Int)) := kl
                  have q3 : wr.cell? ⟨e3, o3 + own m2 n0 x, none⟩ = some (.slice (some ⟨f3, p3, none⟩) (m2 (own m2 n0 x)) (D3 (own m2 n0 x))) := by rw [← h3]; exact y3
                  have q4 : wr.cell? ⟨e4, o4 + own m2 n0 x, none⟩ = some (.slice (some ⟨f4, p4, none⟩) (m2 (own m2 n0 x)) (D4 (own m2 n0 x))) := by rw [← h4]; exact y4
                  have r3 : wr.cell? ⟨f3, p3 + loc m2 n0 x, none⟩ = some (.string (ky (own m2 n0 x) (loc m2 n0 x))) := v3
                  have r4 : wr.cell? ⟨f4, p4 + loc m2 n0 x, none⟩ = some (.string (fg (own m2 n0 x) (loc m2 n0 x))) := v4
                  obtain ⟨xa, xc, hxv, _⟩ := (HT.out.held x hxl).row
                  obtain ⟨ya, yc, hyv, _⟩ := (HM.out.held x hxl).row
                  have LH := hide (HT.out.held x hxl)
                  have LM := hide (HM.out.held x hxl)
                  rw [hxv] at t4 LH
                  rw [hyv] at u4 LM
                  have LL : Hid ((heldList m2 par n0 (spreadOf fb nm m2 fg n0) x).length ≤ 4096) := by
                    show _ ≤ _
                    unfold heldList
                    split
                    · exact Nat.le_trans (rootsTo_length _ _ _ _ _) hall
                    · exact Nat.le_trans (kidsTo_length _ _ _ _ _) hall
                  have HD : ∀ W : World, W.heap = wr.heap → Hid (ListAt W (.slice xa (heldList m2 par n0 (spreadOf fb nm m2 fg n0) x).length xc) (heldList m2 par n0 (spreadOf fb nm m2 fg n0) x)) := fun W e => LH.out.kept (fun _ _ => by rw [e])
                  have HE : ∀ W : World, W.heap = wr.heap → Hid (ListAt W (.slice ya (heldList m2 par n0 (spreadOf fb nm m2 fg n0) x).length yc) (heldList m2 par n0 (spreadOf fb nm m2 fg n0) x)) := fun W e => LM.out.kept (fun _ _ => by rw [e])
                  generalize heldList m2 par n0 (spreadOf fb nm m2 fg n0) x = LX at *
                  have xi0 : (0 : Int) ≤ (x : Int) := by omega
                  have xi1 : (x : Int) < (first m2 n0 : Int) := by omega
                  have oi0 : (0 : Int) ≤ (own m2 n0 x : Int) := by omega
                  have oi1 : (own m2 n0 x : Int) < (n0 : Int) := by omega
                  have li0 : (0 : Int) ≤ (loc m2 n0 x : Int) := by omega
                  have li1 : (loc m2 n0 x : Int) < (m2 (own m2 n0 x) : Int) := by omega
                  clear ko kl y3 y4 v3 v4 h3 h4 how hlw hxv hyv LH LM HT HM S2 S3 S4 hm
                  generalize spreadOf fb nm m2 fg n0 x = fx at *
                  generalize own m2 n0 x = ox at *
                  generalize loc m2 n0 x = lx at *
                  generalize ky ox lx = kk at *
                  generalize fg ox lx = ff at *
                  generalize fragVal fx = fv at *
                  go_wp2
                  go_quiet (fail)
                  go_upto_region 38 with fail
                  obtain ⟨wv, hwv⟩ : ∃ wv, wv = wr.drewN nq := ⟨_, rfl⟩
                  have HWV := hide hwv
                  have t4v : wv.cell? ⟨H, x, none⟩ = some (.slice xa LX.length xc) := by rw [hwv]; exact t4
                  have u4v : wv.cell? ⟨MH, x, none⟩ = some (.slice ya LX.length yc) := by rw [hwv]; exact u4
                  have m4v : wv.cell? ⟨Bm, 4, none⟩ = some (rowOf MH (first m2 n0)) := by rw [hwv]; exact m4'
                  have HD' : ∀ z, Hid (ListAt (wv.drewN z) (.slice xa LX.length xc) LX) := fun z => HD _ (by rw [hwv]; rfl)
                  have HE' : ∀ z, Hid (ListAt (wv.drewN z) (.slice ya LX.length yc) LX) := fun z => HE _ (by rw [hwv]; rfl)
                  rw [← hwv]
                  clear hwv HD HE t1 t2 t3 t4 u3 u4 q3 q4 r3 r4 qo ql
                  go_quiet (first | (go_at_call 16; exact Calls.quiet_of (same_any _ _ LX _ LL.out (HD' _).out (HE' _).out)))
                  go_wp2
                  go_roundg (first m2 n0 - (x + 1))
                  case measure => rw [HK2.out]; omega
                  case rel => exact ⟨x + 1, _, rfl, by omega, by go_num, by rw [HWV.out, HWR.out, World.drewN_drewN, World.drewN_drewN]⟩
                · as_aux_lemma =>
                  have ex : x = first m2 n0 := by omega
                  subst ex
                  go_wp2
                  go_loopg [24] n0 (fun k i wr => ∃ d : Nat, ∃ z : Nat, k = n0 - d ∧ d ≤ n0 ∧ i = .int .i64 d ∧ wr = w8.drewN z)
                  case atStart => exact ⟨0, z, rfl, Nat.zero_le _, rfl, HWR.out⟩
                  case round =>
                    obtain ⟨d, z2, hk3, hd, rfl, hwr⟩ := hrel
                    have HK3 := hide hk3
                    clear hk3
                    have hbw : Below w8.heap.size w8 wr := by rw [hwr]; exact below_drewN (Below.refl _ _) _
                    have HWR := hide hwr
                    clear hwr
                    by_cases hdl : d < n0
                    · have HT := hide (HT.out.below hbw)
                      have HM := hide (HM.out.below hbw)
                      have m5' := (hbw.cell (lt_of_cell m5')).trans m5'
                      have t4 := HT.out.rootAt d hdl
                      have u4 := HM.out.rootAt d hdl
                      obtain ⟨xa, xc, hxv, _⟩ := (HT.out.roots d hdl).row
                      obtain ⟨ya, yc, hyv, _⟩ := (HM.out.roots d hdl).row
                      have LH := hide (HT.out.roots d hdl)
                      have LM := hide (HM.out.roots d hdl)
                      rw [hxv] at t4 LH
                      rw [hyv] at u4 LM
                      have LL : Hid ((rootsTo m2 par n0 (first m2 n0) d).length ≤ 4096) := Nat.le_trans (rootsTo_length _ _ _ _ _) hall
                      have HD : ∀ z, Hid (ListAt (wr.drewN z) (.slice xa (rootsTo m2 par n0 (first m2 n0) d).length xc) (rootsTo m2 par n0 (first m2 n0) d)) := fun z => LH.out.below (below_drewN (Below.refl _ _) _)
                      have HE : ∀ z, Hid (ListAt (wr.drewN z) (.slice ya (rootsTo m2 par n0 (first m2 n0) d).length yc) (rootsTo m2 par n0 (first m2 n0) d)) := fun z => LM.out.below (below_drewN (Below.refl _ _) _)
                      generalize rootsTo m2 par n0 (first m2 n0) d = LX at *
                      have di0 : (0 : Int) ≤ (d : Int) := by omega
                      have di1 : (d : Int) < (n0 : Int) := by omega
                      clear hxv hyv LH LM HT HM S2 S3 S4 hm
                      go_wp2
                      go_quiet (first | (go_at_call 16; exact Calls.quiet_of (same_any _ _ LX _ LL.out (HD _).out (HE _).out)))
                      go_wp2
                      go_roundg (n0 - (d + 1))
                      case measure => rw [HK3.out]; omega
                      case rel => exact ⟨d + 1, _, rfl, by omega, by go_num, by rw [HWR.out, World.drewN_drewN]⟩
                    · have ed : d = n0 := by omega
                      subst ed
                      go_wp2
                      go_ret
                      exact ⟨rfl, by rw [HWR.out]; exact below_drewN hcc _⟩
    · clear h0 h1 h2 h3 h4 hm
      by_cases k0 : n0 ≤ 4096
      · by_cases k1 : n1 ≤ 4096
        · by_cases k2 : n2 ≤ 4096
          · by_cases k3 : n3 ≤ 4096
            · have k4 : ¬ n4 ≤ 4096 := fun h => hbig ⟨k0, k1, k2, k3, h⟩
              clear hbig
              go_wp2
              go_ret
              exact ⟨rfl, Below.refl _ _⟩
            · clear hbig
              go_wp2
              go_ret
              exact ⟨rfl, Below.refl _ _⟩
          · clear hbig
            go_wp2
            go_ret
            exact ⟨rfl, Below.refl _ _⟩
        · clear hbig
          go_wp2
          go_ret
          exact ⟨rfl, Below.refl _ _⟩
      · clear hbig
        go_wp2
        go_ret
        exact ⟨rfl, Below.refl _ _⟩

end Go.Proofs.Qxb6602394a.T
