/-
  FnReachOfMatchesModel: the law's walk.
-/
import Derived.Test.Qxb6602394aShims2
import Derived.Test.Qxb6602394aSame
import Derived.Test.Qxb6602394aBytesReach
import Derived.Test.Qxb6602394aModel
import Derived.Test.Qxb6602394aModelReach
import Derived.Test.Qxb6602394aGuards2
namespace Go.Proofs.Qxb6602394a.T
open Go.RowKit
set_option linter.unusedVariables false

set_option maxRecDepth 100000 in
set_option maxHeartbeats 3200000 in
theorem reachLaw_any (a0 : Option Addr) (n0 c0 : Nat) (fb : Nat → Bool) (a1 : Option Addr) (n1 c1 : Nat) (nm : Nat → ByteArray) (a2 : Option Addr) (n2 c2 : Nat) (A2 : Nat → Option Addr) (m2 C2 : Nat → Nat) (par : Nat → Nat → Int)
    (a3 : Option Addr) (n3 c3 : Nat) (A3 : Nat → Option Addr) (m3 C3 : Nat → Nat) (ky : Nat → Nat → ByteArray) (a4 : Option Addr) (n4 c4 : Nat) (A4 : Nat → Option Addr) (m4 C4 : Nat → Nat) (fg : Nat → Nat → ByteArray) (cb : Int) (w : World)
    (l0 : n0 ≤ 9223372036854775807) (l1 : n1 ≤ 9223372036854775807) (l2 : n2 ≤ 9223372036854775807) (l3 : n3 ≤ 9223372036854775807) (l4 : n4 ≤ 9223372036854775807)
    (hs : ∀ i, i < n1 → (nm i).size ≤ maxLen) (hfs : ∀ i j, i < n4 → j < m4 i → (fg i j).size ≤ maxLen) (hcb : -9223372036854775808 ≤ cb)
    (h0 : RowAt w a0 n0 (fun i => .bool (fb i))) (h1 : RowAt w a1 n1 (fun i => .string (nm i))) (h2 : RowsAt w a2 n2 A2 m2 C2 (fun i j => .int .i64 (par i j))) (h3 : RowsAt w a3 n3 A3 m3 C3 (fun i j => .string (ky i j))) (h4 : RowsAt w a4 n4 A4 m4 C4 (fun i j => .string (fg i j))) :
    Calls Try.prog 4 #[.slice a0 n0 c0, .slice a1 n1 c1, .slice a2 n2 c2, .slice a3 n3 c3, .slice a4 n4 c4, .int .i64 cb] w fun e w' => e = .returned (.bool true) ∧ Below w.heap.size w w' := by
  go_enter Try.func4, Try.ntmps4
  go_wp2_with fail
  refine (zzBytes_reach a0 n0 c0 a1 n1 c1 nm a2 n2 c2 A2 m2 C2 par a3 n3 c3 A3 m3 C3 ky a4 n4 c4 A4 m4 C4 fg cb w l0 l1 l2 l3 l4 h1 h2 h3 h4).mono ?_
  rintro e w' ⟨r, rfl, rfl, hr⟩
  cases r with
  | false =>
    clear h0 h1 h2 h3 h4 hr
    go_wp2
    go_ret
    exact ⟨rfl, Below.refl _ _⟩
  | true =>
    have hm := hr rfl
    clear hr
    by_cases hbig : n0 ≤ 4096 ∧ n1 ≤ 4096 ∧ n2 ≤ 4096 ∧ n3 ≤ 4096 ∧ n4 ≤ 4096
    · obtain ⟨k0, k1, k2, k3, k4⟩ := hbig
      go_wp2_with fail
      refine (defsBytes_any a0 n0 c0 a1 n1 c1 nm a2 n2 c2 A2 m2 C2 par a3 n3 c3 A3 m3 C3 ky a4 n4 c4 A4 m4 C4 fg w k0 k1 k2 k3 k4 h1 h2 h3 h4).mono ?_
      rintro e w' ⟨⟨r, rfl⟩, rfl⟩
      by_cases hr : 1048576 < r
      · clear h0 h1 h2 h3 h4 hm
        go_wp2
        go_ret
        exact ⟨rfl, Below.refl _ _⟩
      · go_wp2_with fail
        refine (wellFormed_any a0 n0 c0 a1 n1 c1 a2 n2 c2 A2 m2 C2 par a3 n3 c3 A3 m3 C3 ky a4 n4 c4 A4 m4 C4 fg w k0 hm h2 h3 h4).mono ?_
        rintro e w' ⟨r2, rfl, rfl, hr2⟩
        cases r2 with
        | false =>
          clear h0 h1 h2 h3 h4 hm hr2
          go_wp2
          go_ret
          exact ⟨rfl, Below.refl _ _⟩
        | true =>
          have hok := hr2 rfl
          clear hr2
          obtain ⟨e1, e2, e3, e4, each, hall⟩ := hok
          have e1 := e1.symm
          have e2 := e2.symm
          have e3 := e3.symm
          have e4 := e4.symm
          subst e1 e2 e3 e4
          have h3' := h3.lens' (fun i hi => (each i hi).1)
          have h4' := h4.lens' (fun i hi => (each i hi).2.1)
          have hpar : ∀ i j, i < n0 → j < m2 i → par i j < (m2 i : Int) := fun i j hi hj => (each i hi).2.2 j hj
          have hfs' : ∀ i j, i < n0 → j < m2 i → (fg i j).size ≤ maxLen := fun i j hi hj => hfs i j hi (by rw [(each i hi).2.1]; exact hj)
          clear each h3 h4 hfs l0 l1 l2 l3 l4 k1 k2 k3 k4 hr
          go_wp2_with fail
          refine (orderly_any a2 n0 c2 A2 m2 C2 par a3 c3 A3 C3 ky a4 c4 A4 C4 fg w k0 hm h2 h3' h4').mono ?_
          rintro e w' ⟨r3, rfl, rfl, hr3⟩
          cases r3 with
          | false =>
            clear h0 h1 h2 h3' h4' hm hr3
            go_wp2
            go_ret
            exact ⟨rfl, Below.refl _ _⟩
          | true =>
            have hord : Orderly n0 m2 par := hr3 rfl
            clear hr3
            go_wp2_with fail
            refine (count_any a2 n0 c2 A2 m2 C2 par w k0 hm h2).mono ?_
            rintro e w' ⟨rfl, rfl⟩
            by_cases hlim : cb < (first m2 n0 : Int) + n0
            · have hb1' := hlim
              obtain ⟨fin, kb, gob, kbb⟩ := class_ends fb nm ky fg hord k0 hall hb1'
              have GB := hide gob
              clear gob hord
              go_wp2_with fail
              refine (cloneBools_any _ a0 n0 c0 w (by omega) h0 (fun _ => rfl)).mono ?_
              rintro e w1 ⟨b0, d0, rfl, p0, _, hb1⟩
              go_wp2_with fail
              refine (cloneStrings_any _ a1 n0 c1 w1 (by omega) (h1.below hb1) (fun _ => rfl)).mono ?_
              rintro e w2 ⟨b1, d1, rfl, p1, _, hb2⟩
              have hc2 := hb1.trans (hb2.mono hb1.size)
              go_wp2_with fail
              refine (cloneIntss_any _ a2 n0 c2 A2 m2 C2 w2 (by omega) hm (h2.below hc2) (fun _ _ => rfl)).mono ?_
              rintro e w3 ⟨b2, d2, B2, D2, rfl, p2, hb3⟩
              have hc3 := hc2.trans (hb3.mono hc2.size)
              go_wp2_with fail
              refine (cloneStringss_any _ a3 n0 c3 A3 m2 C3 w3 (by omega) hm (h3'.below hc3) (fun _ _ => rfl)).mono ?_
              rintro e w4 ⟨b3, d3, B3, D3, rfl, p3, hb4⟩
              have hc4 := hc3.trans (hb4.mono hc3.size)
              go_wp2_with fail
              refine (cloneStringss_any _ a4 n0 c4 A4 m2 C4 w4 (by omega) hm (h4'.below hc4) (fun _ _ => rfl)).mono ?_
              rintro e w5 ⟨b4, d4, B4, D4, rfl, p4, hb5⟩
              have hc5 := hc4.trans (hb5.mono hc4.size)
              have x4 : Below w4.heap.size w4 w5 := hb5
              have x3 : Below w3.heap.size w3 w5 := hb4.trans (hb5.mono hb4.size)
              have x2 : Below w2.heap.size w2 w5 := hb3.trans (x3.mono hb3.size)
              have x1 : Below w1.heap.size w1 w5 := hb2.trans (x2.mono hb2.size)
              have r0 := p0.below x1
              have r1 := p1.below x2
              have r2 := p2.below x3
              have r3 := p3.below x4
              clear h0 h1 h2 h3' h4' p0 p1 p2 p3 hb1 hb2 hb3 hb4 hb5 hc2 hc3 hc4 x1 x2 x3 x4
              go_wp2_with fail
              refine (reachShim_any b0 n0 d0 b1 d1 b2 d2 B2 m2 D2 b3 d3 B3 D3 b4 d4 B4 D4 fb nm par ky fg cb w5 k0 hm hall hs hpar hfs' r0 r1 r2 r3 p4 hb1' hcb fin kb GB.out kbb).mono ?_
              rintro e w6 ⟨vf, vw, rfl, hvf, hvw, hb6⟩
              have hc6 := hc5.trans (hb6.mono hc5.size)
              have r0' := r0.below hb6
              have r1' := r1.below hb6
              have r2' := r2.below hb6
              have r3' := r3.below hb6
              have r4' := p4.below hb6
              clear r0 r1 r2 r3 p4 hc5 hb6
              have HF := hide hvf
              have HW := hide hvw
              clear hvf hvw
              go_wp2_with fail
              refine (model_any b0 n0 d0 b1 d1 b2 d2 B2 m2 D2 b4 d4 B4 D4 fb nm par fg w6 k0 hall r0' r1' r2' r4').mono ?_
              rintro e w7 ⟨vo, vl, MR, MF, MH, MRV, MHV, rfl, hM, hb7⟩
              obtain ⟨ao, co, hvo, _⟩ := hM.o.row
              obtain ⟨al, cl, hvl, _⟩ := hM.l.row
              rw [ownersTo_length] at hvo
              rw [localsTo_length] at hvl
              subst hvo hvl
              have HM := hide hM
              have S3 := hide (r3'.below hb7)
              have S4 := hide (r4'.below hb7)
              have hc7 := hc6.trans (hb7.mono hc6.size)
              have HF7 := hide (HF.out.below hb7)
              have HW7 := hide (HW.out.below hb7)
              clear hM r0' r1' r2' r3' r4' HF HW hb7 hc6
              go_upto_region 18 with fail
              obtain ⟨w8, hw8⟩ : ∃ w8, w8 = w7.alloc (.cells #[.int .i64 (first m2 n0 : Int), .slice ao (first m2 n0) co, .slice al (first m2 n0) cl, rowOf MF (first m2 n0), rowOf MH (first m2 n0), rowOf MR n0] 36) := ⟨_, rfl⟩
              have hb8 : Below w7.heap.size w7 w8 := by rw [hw8]; exact (Below.refl _ _).alloc (Nat.le_refl _) _
              have hrow8 : w8.rowIs w7.heap.size 36 6 (mCells (.int .i64 (first m2 n0 : Int)) (.slice ao (first m2 n0) co) (.slice al (first m2 n0) cl) (rowOf MF (first m2 n0)) (rowOf MH (first m2 n0)) (rowOf MR n0)) := by
                rw [hw8]
                exact World.rowIs_alloc w7 _ 36 _ (fun i hi => by
                  have : i < 6 := by simpa using hi
                  match i, this with
                  | 0, _ => rfl
                  | 1, _ => rfl
                  | 2, _ => rfl
                  | 3, _ => rfl
                  | 4, _ => rfl
                  | 5, _ => rfl)
              obtain ⟨Bm, hBm⟩ : ∃ Bm, Bm = w7.heap.size := ⟨_, rfl⟩
              rw [← hBm] at hrow8
              have HEnv : Hid (Env w8 Bm n0 m2 par ky fg (spreadOf fb nm m2 fg n0) ao al co cl MF MH MR MHV MRV b3 B3 D3 b4 B4 D4) := ⟨hrow8, HM.out.below hb8, S3.out.below hb8, S4.out.below hb8⟩
              have hc8 := hc7.trans (hb8.mono hc7.size)
              have HF8 := hide (HF7.out.below hb8)
              have HW8 := hide (HW7.out.below hb8)
              rw [← hw8, ← hBm]
              clear hw8 hBm hb8 hrow8 hc7 HF7 HW7 HM S3 S4
              go_wp2_with fail
              refine (modelReach_any w8 Bm n0 m2 par ky fg (spreadOf fb nm m2 fg n0) ao al co cl MF MH MR MHV MRV b3 B3 D3 b4 B4 D4 d3 d4 HEnv.out k0 hall spreadOf_lt cb hb1' fin kb GB.out kbb).mono ?_
              rintro e w9 ⟨uf, uw, rfl, huf, huw, hb9⟩
              obtain ⟨fa, fc, rfl, _⟩ := huf.row
              obtain ⟨ga, gc, rfl, _⟩ := huw.row
              have hc9 := hc8.trans (hb9.mono hc8.size)
              have HF9 := hide (HF8.out.below hb9)
              have HW9 := hide (HW8.out.below hb9)
              have HUF := hide huf
              have HUW := hide huw
              have hgr := Goes.grows (N := 4096) (fun x => Nat.le_trans heldList_length hall) GB.out
              have g1 : fin.fields.length ≤ 268435456 := by have := hgr.1; simp [startSt] at this; omega
              have g2 : fin.ws.length ≤ 268435456 := by have := hgr.2.1; simp [startSt] at this; omega
              clear huf huw HF8 HW8 hc8 hb9 HEnv hgr hs hfs' hpar hm GB
              go_upto_region 19 with fail
              obtain ⟨wX, hwX⟩ : ∃ wX, wX = w9.alloc (.cells #[.slice fa fin.fields.length fc, .int .i64 (fin.held : Int), .slice ga fin.ws.length gc] 45) := ⟨_, rfl⟩
              have hbX : Below w9.heap.size w9 wX := by rw [hwX]; exact (Below.refl _ _).alloc (Nat.le_refl _) _
              have q0 : wX.cell? ⟨w9.heap.size, 0, none⟩ = some (.slice fa fin.fields.length fc) := by rw [hwX]; simp
              have q1 : wX.cell? ⟨w9.heap.size, 1, none⟩ = some (.int .i64 (fin.held : Int)) := by rw [hwX]; simp
              have q2 : wX.cell? ⟨w9.heap.size, 2, none⟩ = some (.slice ga fin.ws.length gc) := by rw [hwX]; simp
              rw [← hwX]
              have hcX := hc9.trans (hbX.mono hc9.size)
              have HFX := hide (HF9.out.below hbX)
              have HWX := hide (HW9.out.below hbX)
              have HUFX := hide (HUF.out.below hbX)
              have HUWX := hide (HUW.out.below hbX)
              clear hwX hbX HF9 HW9 HUF HUW hc9
              go_wp2_with fail
              refine (same_big vf _ fin.fields wX g1 HFX.out HUFX.out).mono ?_
              rintro e w8' ⟨rfl, z8, rfl⟩
              go_wp2_with fail
              refine (same_big vw _ fin.ws (wX.drewN z8) g2 (HWX.out.below (below_drewN (Below.refl _ _) _)) (HUWX.out.below (below_drewN (Below.refl _ _) _))).mono ?_
              rintro e w9' ⟨rfl, z9, rfl⟩
              go_wp2
              go_ret
              exact ⟨rfl, below_drewN hcX _⟩
            · clear h0 h1 h2 h3' h4' hm hpar hs hfs' hord
              have hla' : (first m2 n0 : Int) + n0 ≤ cb := by omega
              go_wp2
              go_ret
              exact ⟨rfl, Below.refl _ _⟩
    · clear h0 h1 h2 h3 h4 hm
      by_cases k0 : n0 ≤ 4096
      · by_cases k1 : n1 ≤ 4096
        · by_cases k2 : n2 ≤ 4096
          · by_cases k3 : n3 ≤ 4096
            · have k4 : ¬ n4 ≤ 4096 := fun h => hbig ⟨k0, k1, k2, k3, h⟩
              clear hbig
              go_wp2
              go_ret
              exact ⟨rfl, Below.refl _ _⟩
            · clear hbig
              go_wp2
              go_ret
              exact ⟨rfl, Below.refl _ _⟩
          · clear hbig
            go_wp2
            go_ret
            exact ⟨rfl, Below.refl _ _⟩
        · clear hbig
          go_wp2
          go_ret
          exact ⟨rfl, Below.refl _ _⟩
      · clear hbig
        go_wp2
        go_ret
        exact ⟨rfl, Below.refl _ _⟩

end Go.Proofs.Qxb6602394a.T
