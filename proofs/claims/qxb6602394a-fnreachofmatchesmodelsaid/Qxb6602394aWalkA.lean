/-
  reachOf: the walk.
-/
import Derived.Test.Qxb6602394aLoopBase
import Derived.BigRegion
namespace Go.Proofs.Qxb6602394a.T
open Go.RowKit
set_option linter.unusedVariables false

set_option maxRecDepth 100000 in
set_option maxHeartbeats 3200000 in
theorem reach_miss (w : World) (C T A n N K Sp FB H R F RM : Nat) (key : Nat → ByteArray) (sp : Nat → Bool) (fr : Nat → Option Nat) (HV RV : Nat → Value) (hl rt : Nat → List Nat) (c : Int) (hc : c < (N : Int) + n) (hcl : -9223372036854775808 ≤ c) (hN : N ≤ 4096) (hn : n ≤ 4096)
    (hfr : ∀ x d, fr x = some d → d < n) (hin : ∀ x y, y ∈ hl x → y < N) (hS : ∀ y, y ∈ classList N hl rt c → y < N) (hlen : ∀ x, (hl x).length ≤ 4096)
    (fin : St) (k : Nat) (hgo : Goes n (isField key) sp fr hl (classList N hl rt c) [] (startSt N c) fin k) (hk : k ≤ 33566720)
    (c0 : w.cell? ⟨C, 0, none⟩ = some (.pointer (some ⟨T, 0, none⟩))) (c1 : w.cell? ⟨C, 1, none⟩ = some (.map (some RM))) (hT : TreeIn w T A n N K Sp FB H R F key sp fr HV RV hl rt)
    (G : Int → Option Value) (cnt : Nat) (hM : MapIs Try.prog w 3 RM cnt (byI64 G)) (hcnt : cnt ≤ 4096) (hG : G c = none) :
    Calls Try.prog 36 #[.pointer (some ⟨C, 0, none⟩), .int .i64 c] w fun e w' => ∃ vf vw, e = .returned (.agg #[vf, .int .i64 (fin.held : Int), vw]) ∧ ListAt w' vf fin.fields ∧ ListAt w' vw fin.ws ∧
      MapIs Try.prog w' 3 RM (cnt + 1) (byI64 fun y => if y = c then some (.agg #[vf, .int .i64 (fin.held : Int), vw]) else G y) ∧ Below RM w w' ∧ (∀ g, g ≠ RM → g < w.heap.size → w'.heap[g]? = w.heap[g]?) ∧ Off vf (fun g => w.heap.size ≤ g) ∧ Off vw (fun g => w.heap.size ≤ g) := by
  have hwf := wf_i64 hcl (show c ≤ 9223372036854775807 by omega)
  go_enter Try.func36, Try.ntmps36
  go_upto_region 1 with fail
  obtain ⟨w1, hw1⟩ : ∃ w1, w1 = w.alloc (.cells #[nilS, .int .i64 0, nilS] 74) := ⟨_, rfl⟩
  have hb1 : Below w.heap.size w w1 := by rw [hw1]; exact (Below.refl _ _).alloc (Nat.le_refl _) _
  have s1 : w1.heap.size = w.heap.size + 1 := by rw [hw1]; simp
  have r1 : w1.rowIs w.heap.size 74 3 (rCells nilS (.int .i64 0) nilS) := by
    rw [hw1]
    exact World.rowIs_alloc w #[nilS, .int .i64 0, nilS] 74 (rCells nilS (.int .i64 0) nilS) (fun i hi => by
      have : i < 3 := by simpa using hi
      match i, this with
      | 0, _ => rfl
      | 1, _ => rfl
      | 2, _ => rfl)
  have q0 := (hb1.cell (lt_of_cell c0)).trans c0
  have q1 := (hb1.cell (lt_of_cell c1)).trans c1
  have look := (hM.kept (hb1.block _ hM.lt)).lookI_ok Try.underlying3 Try.underlying69 (zero74 w1) hwf
  rw [hG] at look
  simp only [Option.getD_none, Option.isSome_none] at look
  have HC := hide c0
  have HC1 := hide c1
  have HGo := hide hgo
  have HT := hide hT
  have HM := hide hM
  have HG := hide hG
  rw [← hw1]
  clear hw1 c0 c1 hT hM hgo hG hcl
  go_upto_region 4 with fail
  obtain ⟨wA, hwA⟩ : ∃ wA, wA = w1.alloc (.cells #[nilS, .int .i64 0, nilS] 74) := ⟨_, rfl⟩
  have hbA1 : Below w1.heap.size w1 wA := by rw [hwA]; exact (Below.refl _ _).alloc (Nat.le_refl _) _
  have hbA : Below w.heap.size w wA := hb1.trans (hbA1.mono (by omega))
  have sA : wA.heap.size = w.heap.size + 2 := by rw [hwA]; simp [s1]
  have rA := r1.of_block (hbA1.block _ (show w.heap.size < w1.heap.size by omega))
  have SA := hide sA
  rw [← hwA]
  clear hwA hbA1 q0 q1 look r1 s1 hb1 sA
  go_upto_region 5 with fail
  obtain ⟨wB, hwB⟩ : ∃ wB, wB = wA.alloc (.cells #[nilS, .int .i64 0, nilS] 74) := ⟨_, rfl⟩
  have hbB : Below wA.heap.size wA wB := by rw [hwB]; exact (Below.refl _ _).alloc (Nat.le_refl _) _
  have HWB := hide hwB
  have hbW : Below w.heap.size w wB := hbA.trans (hbB.mono (by rw [SA.out]; omega))
  have q0 := (hbW.cell (lt_of_cell HC.out)).trans HC.out
  rw [← hwB]
  clear hwB
  go_wp2_with fail
  refine (classSet_any wB T A n N K Sp FB H R F key sp fr HV RV hl rt c hc hN hn (HT.out.below hbW)).mono ?_
  rintro e w' ⟨sa, sl, sc, rfl, hset, z, rfl⟩
  have HSet := hide hset
  clear hset q0
  go_upto_region 6 with fail
  obtain ⟨wC, hwC⟩ : ∃ wC, wC = (wB.drewN z).alloc (.cells #[.slice sa sl sc] 32) := ⟨_, rfl⟩
  have hbC1 : Below wB.heap.size wB wC := by rw [hwC]; exact (below_drewN (Below.refl _ _) _).alloc (Nat.le_refl _) _
  have sB : wB.heap.size = w.heap.size + 3 := by rw [HWB.out]; simp [SA.out]
  have sC : wC.heap.size = w.heap.size + 4 := by rw [hwC]; simp [sB]
  have hbCW : Below w.heap.size w wC := hbW.trans (hbC1.mono (by omega))
  have HWC := hide hwC
  have hTC := HT.out.below (hbCW.mono (Nat.le_refl _))
  have hD : Below w.heap.size w (wC.alloc (.map #[] 0)) := hbCW.alloc (by omega) _
  have q0 := (hD.cell (lt_of_cell HC.out)).trans HC.out
  have t1 := (HT.out.below hD).t.cell (show 1 < 7 by omega)
  simp only [tCells] at t1
  have hmm := @run_makeMap Try.prog
  obtain ⟨wS, hst, hMS, hgS⟩ := ((MapIs.made Try.prog wC 3).congr (F' := byI64 fun _ => none) (fun kl _ => by unfold byI64; split <;> rfl)).storeI Try.underlying3 Try.underlying101 (show 0 < maxLen by decide) hwf (.bool (decide ((N : Int) ≤ c)))
  have SB := hide sB
  have SC := hide sC
  rw [← hwC]
  have HMS := hide hMS
  have HGS := hide hgS
  clear hwC hMS hgS hTC sB sC
  go_upto_region 7 with fail
  have hTA := HT.out.below hbA
  obtain ⟨eo, hL⟩ := Loop.start (n := n) HGo.out hk hc HWB.out HWC.out HGS.out (HSet.out wA hTA) hS HMS.out
  obtain ⟨f1, f2, f3⟩ := HGo.out.grows hlen
  have C0 := hide ((hbA.cell (lt_of_cell HC.out)).trans HC.out)
  have C1 := hide ((hbA.cell (lt_of_cell HC1.out)).trans HC1.out)
  obtain ⟨B0, hB0⟩ : ∃ B0, B0 = w.heap.size := ⟨_, rfl⟩
  have HB0 := hide hB0
  obtain ⟨RB, hRB⟩ : ∃ RB, RB = wA.heap.size := ⟨_, rfl⟩
  have HRB := hide hRB
  obtain ⟨EB, hEB⟩ : ∃ EB, EB = wC.heap.size := ⟨_, rfl⟩
  have HEB := hide hEB
  obtain ⟨SK, hSK⟩ : ∃ SK, SK = wB.heap.size := ⟨_, rfl⟩
  rw [← hRB, ← hEB, ← hSK] at hL
  rw [← hB0] at rA
  rw [← hRB, ← hEB, ← hSK, ← hB0]
  have HL := hide hL
  have HTA := hide hTA
  have g1 : fin.fields.length ≤ 33566720 := by simp [startSt] at f1; omega
  have g2 : fin.ws.length ≤ 33566720 := by simp [startSt] at f2; omega
  have g3 : fin.held ≤ 137489285120 := by simp [startSt] at f3; omega
  have G1 := hide g1
  have G2 := hide g2
  have G3 := hide g3
  clear hRB hEB hSK hB0 hL hTA hst hmm t1 q0 hD hbCW hbC1 HSet HWB HWC HGS HMS hbW hbB SB f1 f2 f3 g1 g2 g3 HC HT HGo
  go_loopg [8] (k + 1) (fun kk vs wr => ∃ Z st V0 V1 eo G cnt g cap, Loop wA wr n N key sp fr hl RB EB fin vs [] kk Z st V0 V1 eo G cnt ∧ vs = .slice (some ⟨g, 0, none⟩) Z.length cap)
  case atStart => exact ⟨_, _, _, _, _, _, _, _, _, HL.out, rfl⟩
  case round =>
    clear HL
    obtain ⟨Z, st, V0, V1, eo, G', cnt', g, cap, hL, rfl⟩ := hrel
    cases Z with
    | nil =>
      as_aux_lemma =>
      have hst : st = fin := hL.goes.ended.1
      subst hst
      obtain ⟨ua, uc, hu, _⟩ := hL.mem.o0.listAt.row
      obtain ⟨xa, xc, hx, _⟩ := hL.mem.o1.listAt.row
      subst hu hx
      have hb := hL.mem.below
      have hbw : Below w.heap.size w wr := hbA.trans (hb.mono hbA.size)
      have q1 := (hb.cell (lt_of_cell C1.out)).trans C1.out
      have r0 := hL.mem.r.cell (show 0 < 3 by omega)
      have r1 := hL.mem.r.cell (show 1 < 3 by omega)
      have r2 := hL.mem.r.cell (show 2 < 3 by omega)
      simp only [rCells] at r0 r1 r2
      have hRM := HM.out.lt
      have hmr := HM.out.kept (w' := wr.drew) (hbw.block _ hRM)
      obtain ⟨w5, hst5, hM5, hg5⟩ := hmr.storeI Try.underlying3 Try.underlying69 (show cnt < maxLen by unfold maxLen; omega) hwf (.agg #[.slice ua st.fields.length uc, .int .i64 (st.held : Int), .slice xa st.ws.length xc])
      have HL := hide hL
      have HM5 := hide hM5
      have HG5 := hide hg5
      clear hL hM5 hg5 hmr
      go_wp2
      go_region
      go_upto_region 24 with fail
      have hR5 := HL.out.mem.r.of_block (HG5.out.block RB HL.out.mem.rlt (fun e => by have h1 := HRB.out; have h2 := SA.out; simp at e; omega))
      have r0 := hR5.cell (show 0 < 3 by omega)
      have r1 := hR5.cell (show 1 < 3 by omega)
      have r2 := hR5.cell (show 2 < 3 by omega)
      simp only [rCells] at r0 r1 r2
      have hS5 := rA.of_block ((HG5.out.block B0 (by have := HB0.out; have := hbw.size; have := SA.out; have := hb.size; show B0 < wr.heap.size; omega) (fun e => by have h1 := HB0.out; simp at e; omega)).trans (hb.block B0 (by have := HB0.out; have := SA.out; omega)))
      have s0 := hS5.cell (show 0 < 3 by omega)
      have s1 := hS5.cell (show 1 < 3 by omega)
      have s2 := hS5.cell (show 2 < 3 by omega)
      simp only [rCells] at s0 s1 s2
      have z0 := hS5.frozen 0
      have z1 := hS5.frozen 1
      have z2 := hS5.frozen 2
      have nB : RB ≠ B0 := by have := HB0.out; have := SA.out; have := HRB.out; omega
      clear hR5 hst5 q1
      go_wp2
      obtain ⟨wz, hwz⟩ : ∃ wz, wz = ((w5.setCell ⟨B0, 0, none⟩ (.slice ua st.fields.length uc)).setCell ⟨B0, 1, none⟩ (.int .i64 (st.held : Int))).setCell ⟨B0, 2, none⟩ (.slice xa st.ws.length xc) := ⟨_, rfl⟩
      rw [← hwz]
      have hrow := ((hS5.set 0 (.slice ua st.fields.length uc)).set 1 (.int .i64 (st.held : Int))).set 2 (.slice xa st.ws.length xc)
      rw [← hwz] at hrow
      have q0 : wz.cell? ⟨B0, 0, none⟩ = some (.slice ua st.fields.length uc) := hrow.cell (show 0 < 3 by omega)
      have q1 : wz.cell? ⟨B0, 1, none⟩ = some (.int .i64 (st.held : Int)) := hrow.cell (show 1 < 3 by omega)
      have q2 : wz.cell? ⟨B0, 2, none⟩ = some (.slice xa st.ws.length xc) := hrow.cell (show 2 < 3 by omega)
      have hz5 : ∀ g, g ≠ B0 → wz.heap[g]? = w5.heap[g]? := fun g hg => by
        rw [hwz]
        exact (Below.heap_setCell _ _ _ _ hg).trans ((Below.heap_setCell _ _ _ _ hg).trans (Below.heap_setCell _ _ _ _ hg))
      have hz : ∀ g, g ≠ RM → g ≠ B0 → g < wr.heap.size → wz.heap[g]? = wr.heap[g]? := fun g h1 h2 h3 => (hz5 g h2).trans (HG5.out.block g h3 (fun e => h1 (Option.some.inj e)))
      have hsz : wz.heap.size = w5.heap.size := by rw [hwz]; simp [World.setCell]
      have hoz : wz.os = w5.os ∧ wz.tape = w5.tape ∧ wz.output = w5.output := by rw [hwz]; exact ⟨rfl, rfl, rfl⟩
      refine bodyPost_ret (v := .agg #[.slice ua st.fields.length uc, .int .i64 (st.held : Int), .slice xa st.ws.length xc]) (by simp [results, Try.results36, go_sem, q0, q1, q2]) rfl ?_
      have hB0 := HB0.out
      have hSA := SA.out
      have hold : ∀ g, g ≠ RM → g < w.heap.size → wz.heap[g]? = w.heap[g]? := fun g h1 h2 => (hz g h1 (by omega) (by have := hbw.size; omega)).trans (hbw.block g h2)
      have o0 : ∀ g, Value.ownBlock (.slice ua st.fields.length uc) = some g → wA.heap.size ≤ g ∧ g < wr.heap.size := fun g e => HL.out.mem.o0.1.lt g e
      have o1 : ∀ g, Value.ownBlock (.slice xa st.ws.length xc) = some g → wA.heap.size ≤ g ∧ g < wr.heap.size := fun g e => HL.out.mem.o1.1.lt g e
      refine ⟨_, _, rfl, HL.out.mem.o0.listAt.kept (fun g e => hz g ?_ ?_ (o0 g e).2), HL.out.mem.o1.listAt.kept (fun g e => hz g ?_ ?_ (o1 g e).2), HM5.out.kept (hz5 RM (by omega)), ⟨?_, ?_, ?_, ?_, fun g hg => hold g (by omega) (by omega)⟩, hold, fun g e => ?_, fun g e => ?_⟩
      · have := (o0 g e).1; omega
      · have := (o0 g e).1; omega
      · have := (o1 g e).1; omega
      · have := (o1 g e).1; omega
      · exact hoz.1.trans (HG5.out.os.trans hbw.os)
      · exact hoz.2.1.trans (HG5.out.tape.trans hbw.tape)
      · exact hoz.2.2.trans (HG5.out.output.trans hbw.output)
      · have h1 := HG5.out.size; have h2 := hbw.size; rw [hsz]; exact Nat.le_trans h2 h1
      · have := (o0 g e).1; omega
      · have := (o1 g e).1; omega
    | cons zp Z =>
      obtain ⟨v, s⟩ := zp
      obtain ⟨k0, hk0, hgo⟩ : ∃ k0, gk = k0 + 1 ∧ Goes n (isField key) sp fr hl s (Z.map (·.2)) st fin k0 := hL.goes.popped
      have HK := hide hk0
      have hsets := hL.sets (v, s) (by simp)
      obtain ⟨va, vc, hv, hrow⟩ := hsets.1.row
      have HRow := hide hrow
      clear hrow
      have hmem := hL.mem
      rw [show (List.map (·.1) ((v, s) :: Z)).reverse = (Z.map (·.1)).reverse ++ [v] by simp, show ((v, s) :: Z).length = (Z.map (·.1)).reverse.length + 1 by simp] at hmem
      have hst := hmem.st
      rw [show ((Z.map (·.1)).reverse ++ [v]).length = (Z.map (·.1)).reverse.length + 1 by simp] at hst
      have hcap := ownsRow_caps hst
      have htop := ownsRow_last hst
      have hpop := hmem.pop
      rw [show (Z.map (·.1)).reverse.length = Z.length by simp] at hcap htop hpop
      have hzl := hgo.stack
      rw [show (Z.map (·.2)).length = Z.length by simp] at hzl
      have hcn := hL.cnt
      have HL0 : Hid (Loop wA wr n N key sp fr hl RB EB fin (.slice (some ⟨g, 0, none⟩) Z.length cap) s k0 Z st V0 V1 eo G' cnt') := ⟨hgo, hpop, fun p hp => hL.sets p (by simp [hp]), hL.map, hL.ent, by omega⟩
      have hz1 : Z.length ≤ 33566730 := by omega
      rw [List.length_cons]
      simp only at hv
      subst hv
      have HSets := hide hsets
      have hs1 : s.length ≤ 33566730 := by omega
      clear hL hgo hmem hst hpop hzl hsets hcn hk0
      generalize hzl : Z.length = zl at *
      have HZ := hide hzl
      clear hzl
      obtain ⟨cap1, cap2⟩ := hcap
      unfold maxLen at cap2
      go_wp2
      obtain ⟨g0, rfl⟩ : ∃ g0 : Nat, g0 = gk := ⟨_, rfl⟩
      go_loopg [8, 61] s.length (fun kx vs i wr => ∃ p Z st V0 V1 eo G cnt g cap kk, kx = s.length - p ∧ p ≤ s.length ∧ i = .int .i64 p ∧ Loop wA wr n N key sp fr hl RB EB fin vs (s.drop p) kk Z st V0 V1 eo G cnt ∧ vs = .slice (some ⟨g, 0, none⟩) Z.length cap ∧ kk + 1 ≤ g0)
      case atStart => exact ⟨0, Z, st, V0, V1, eo, G', cnt', g, cap, k0, rfl, Nat.zero_le _, rfl, HL0.out, by rw [HZ.out], by rw [HK.out]; exact Nat.le_refl _⟩
      case round =>
        clear HL0 htop HZ hz1 cap1 cap2 HK
        obtain ⟨p, Z, st, V0, V1, eo, G', cnt', g, cap, kk, hkx, hp, rfl, hL, rfl, hkk⟩ := hrel
        have HKX := hide hkx
        have HKK := hide hkk
        clear hkx hkk
        by_cases hlt : p < s.length
        · obtain ⟨x, hxe⟩ : ∃ x, x = s[p] := ⟨_, rfl⟩
          have hdrop : s.drop p = x :: s.drop (p + 1) := by rw [hxe]; exact List.drop_eq_getElem_cons hlt
          have hxN : x < N := HSets.out.2 x (by rw [hxe]; exact List.getElem_mem hlt)
          rw [hdrop] at hL
          have hb := hL.mem.below
          have hTr := HTA.out.below hb
          obtain ⟨sb, so, rfl, hcx⟩ := HRow.out p hlt
          have qx : wr.cell? ⟨sb, so + p, none⟩ = some (.int .i64 (x : Int)) := by
            rw [hb.cell (lt_of_cell hcx), hcx, hxe]
            simp [List.getD, hlt]
          have q0 := (hb.cell (lt_of_cell C0.out)).trans C0.out
          have t1 := hTr.t.cell (show 1 < 7 by omega)
          have t2 := hTr.t.cell (show 2 < 7 by omega)
          have t4 := hTr.t.cell (show 4 < 7 by omega)
          simp only [tCells] at t1 t2 t4
          have qk := hTr.keys x hxN
          have qs := hTr.spreads x hxN
          have qh := hTr.heldAt x hxN
          obtain ⟨ha, hcp, hhv, _⟩ := (hTr.held x hxN).row
          rw [hhv] at qh
          have hmono := hL.goes.mono
          have hstk := hL.goes.stack
          have e0 := G1.out
          have e1 := G2.out
          have e2 := G3.out
          have b0 : st.fields.length ≤ 33566720 := by omega
          have b1 : st.ws.length ≤ 33566720 := by omega
          have b2 : st.held ≤ 137489285120 := by omega
          have hlx := hlen x
          have x0 : (0 : Int) ≤ (x : Int) := by omega
          have x1 : (x : Int) < (N : Int) := by omega
          have p0 : (0 : Int) ≤ (p : Int) := by omega
          have p1 : (p : Int) < (s.length : Int) := by omega
          clear hcx hxe hdrop hmono hstk e0 e1 e2 hTr
          by_cases hF : (key x).toList.isEmpty = false
          · as_aux_lemma =>
            obtain ⟨k1, hk1, hgo⟩ := hL.goes.isfield (by simp [isField, hF])
            have HGo := hide hgo
            have HK1 := hide hk1
            have r0 := hL.mem.r.cell (show 0 < 3 by omega)
            simp only [rCells] at r0
            have HOa := hide (hL.mem.o0.below ((Below.refl _ _).alloc (Nat.le_refl _) (.cells #[.int .i64 (x : Int)] 3)))
            have HBa : Hid ((wr.alloc (.cells #[.int .i64 (x : Int)] 3)).cell? ⟨wr.heap.size, 0, none⟩ = some (.int .i64 (x : Int))) := by show _ = _; simp
            have hws : wA.heap.size ≤ wr.heap.size := hL.mem.size
            have HL := hide hL
            have HB := hide hb
            clear hL hgo hk1 hb
            go_upto_region 15 with (first
              | (at_builtin; refine wpList_appN _ rfl _ _ rfl wA.heap.size V0 st.fields x rfl HOa.out wr.heap.size rfl HBa.out (by omega) (by simp; omega) ?_; intro g1 cap1 w1 hown hgrow hat hlt; have x3 := HL.out.mem.rgrown0 _ hgrow; have y1 := x3.cell (show 0 < 3 by omega); have y2 := x3.frozen 0; simp only [rCells] at y1; have HN := hide (HL.out.mem.app0 _ hown hgrow hat); clear hown hgrow hat hlt x3))
            obtain ⟨w2, hw2⟩ : ∃ w2, w2 = w1.setCell ⟨RB, 0, none⟩ (.slice (some ⟨g1, 0, none⟩) (st.fields.length + 1) cap1) := ⟨_, rfl⟩
            have hM := HN.out
            rw [← hw2] at hM
            rw [← hw2]
            obtain ⟨nv, hnv⟩ : ∃ nv, nv = Value.slice (some ⟨g1, 0, none⟩) (st.fields.length + 1) cap1 := ⟨_, rfl⟩
            rw [← hnv] at hM
            have hb2 := hM.below
            clear HN HOa HBa y1 y2 r0 qk qs t1 t2 q0 t4 qh hw2 hnv
            have q0 := (hb2.cell (lt_of_cell C0.out)).trans C0.out
            have hTr := HTA.out.below hb2
            have t4 := hTr.t.cell (show 4 < 7 by omega)
            simp only [tCells] at t4
            have qh := hTr.heldAt x hxN
            rw [hhv] at qh
            have hmap := (HL.out.map).kept (hM.ent.trans HL.out.mem.ent.symm)
            have hcnt2 : cnt' + k1 ≤ 33566730 := by have := HL.out.cnt; have := HK1.out; omega
            have hk2 : k1 + 1 ≤ g0 := by have := HKK.out; have := HK1.out; omega
            have HCnt := hide hcnt2
            have HK2 := hide hk2
            clear hTr hcnt2 hk2
            by_cases hh : hl x = []
            · have HL2 : Hid (Loop wA w2 n N key sp fr hl RB EB fin (.slice (some ⟨g, 0, none⟩) Z.length cap) (s.drop (p + 1)) k1 Z (takeF hl x st) nv V1 eo G' cnt') :=
                ⟨HGo.out, by rw [show (takeF hl x st).ws = st.ws by simp [takeF, hh]]; exact hM, HL.out.sets, hmap, HL.out.ent, HCnt.out⟩
              have hl0 : (hl x).length = 0 := by rw [hh]; rfl
              rw [hl0] at qh
              clear hM hmap hb2
              go_wp2
              go_roundg (s.length - (p + 1))
              case measure => rw [HKX.out]; omega
              case rel => exact ⟨p + 1, Z, takeF hl x st, nv, V1, eo, G', cnt', g, cap, k1, rfl, by omega, by go_num, HL2.out, rfl, HK2.out⟩
            · have hpos : 0 < (hl x).length := List.length_pos_iff.2 hh
              have r2 := hM.r.cell (show 2 < 3 by omega)
              simp only [rCells] at r2
              have HOa := hide (hM.o1.below ((Below.refl _ _).alloc (Nat.le_refl _) (.cells #[.int .i64 (x : Int)] 3)))
              have HBa : Hid ((w2.alloc (.cells #[.int .i64 (x : Int)] 3)).cell? ⟨w2.heap.size, 0, none⟩ = some (.int .i64 (x : Int))) := by show _ = _; simp
              have hws : wA.heap.size ≤ w2.heap.size := hM.size
              have HM2 := hide hM
              have HMap := hide hmap
              clear hM hmap hb2
              go_wp2_with (first
                | (at_builtin; refine wpList_appN _ rfl _ _ rfl wA.heap.size V1 st.ws x rfl HOa.out w2.heap.size rfl HBa.out (by omega) (by simp; omega) ?_; intro g3 cap3 w3 hown hgrow hat hlt; have x3 := HM2.out.rgrown1 _ hgrow; have y1 := x3.cell (show 2 < 3 by omega); have y2 := x3.frozen 2; simp only [rCells] at y1; have HN := hide (HM2.out.app1 _ hown hgrow hat); clear hown hgrow hat hlt x3))
              go_roundg (s.length - (p + 1))
              case measure => rw [HKX.out]; omega
              case rel =>
                refine ⟨p + 1, Z, takeF hl x st, nv, .slice (some ⟨g3, 0, none⟩) (st.ws.length + 1) cap3, eo, G', cnt', g, cap, k1, rfl, by omega, by go_num, ⟨HGo.out, ?_, HL.out.sets, HMap.out.kept (HN.out.ent.trans HM2.out.ent.symm), HL.out.ent, HCnt.out⟩, rfl, HK2.out⟩
                rw [show (takeF hl x st).ws = st.ws ++ [x] by simp [takeF, hh]]
                exact HN.out
          · as_aux_lemma =>
            have hF' : (key x).toList.isEmpty = true := by simpa using hF
            have hnF : isField key x = false := by simp [isField, hF']
            have r1 := hL.mem.r.cell (show 1 < 3 by omega)
            simp only [rCells] at r1
            have z1 := hL.mem.r.frozen 1
            have nC : RB ≠ C := by have h1 : C < wA.heap.size := lt_of_cell C0.out; have := HRB.out; omega
            have nT : RB ≠ T := by have := HTA.out.t.lt; have := HRB.out; omega
            have nH : RB ≠ H := by have h1 : H < wA.heap.size := lt_of_cell (HTA.out.heldAt x hxN); have := HRB.out; omega
            have HL := hide hL
            have HB := hide hb
            clear hL hb hF
            obtain ⟨ll, hll⟩ : ∃ ll, ll = (hl x).length := ⟨_, rfl⟩
            rw [← hll] at qh hlx hhv
            have HLL := hide hll.symm
            clear hll
            go_wp2
            go_region
            go_upto_region 18 with fail
            obtain ⟨w2, hw2⟩ : ∃ w2, w2 = (wr.setCell ⟨RB, 1, none⟩ (.int .i64 ((st.held : Int) + ll))).drew := ⟨_, rfl⟩
            have hM := (HL.out.mem.setR ((st.held : Int) + ll)).drew
            rw [← hw2] at hM
            rw [← hw2]
            have HM := hide hM
            have hb2 := hM.below
            clear hw2 hM r1 z1 qk qs t1 t2 q0 t4 qh HB
            have q0 := (hb2.cell (lt_of_cell C0.out)).trans C0.out
            have hfrx := hfr x
            go_wp2_with fail
            refine (classOf_any w2 T A n N K Sp FB H R F key sp fr HV RV hl rt x hxN hN (fun d e => by have := hfrx d e; omega) (HTA.out.below hb2)).mono ?_
            rintro e w' ⟨rfl, z, rfl⟩
            obtain ⟨w3, hw3⟩ : ∃ w3, w3 = w2.drewN z := ⟨_, rfl⟩
            have hM := HM.out.drewN z
            rw [← hw3] at hM
            rw [← hw3]
            clear hw3 hb2 q0 HM
            have hmap := HL.out.map.kept (hM.ent.trans HL.out.mem.ent.symm)
            have hcn : -1 ≤ classNo N sp fr x ∧ classNo N sp fr x ≤ 8192 := by
              unfold classNo
              split
              · cases ef : fr x with
                | none => simp only; omega
                | some d => have := hfrx d ef; simp only; omega
              · omega
            have hwf2 := wf_i64 (x := classNo N sp fr x) (by omega) (by omega)
            have look := hmap.lookI Try.underlying3 Try.underlying101 (zero4 w3) hwf2
            rw [HL.out.ent] at look
            have hb3 := hM.below
            have q0 := (hb3.cell (lt_of_cell C0.out)).trans C0.out
            have hTr := HTA.out.below hb3
            have t2 := hTr.t.cell (show 2 < 7 by omega)
            simp only [tCells] at t2
            have qs := hTr.spreads x hxN
            have HM := hide hM
            have HMap := hide hmap
            have hc2 := HL.out.cnt
            clear hTr hM hmap
            cases hE : entAt N n st.ent (classNo N sp fr x) with
            | true =>
              as_aux_lemma =>
              obtain ⟨k1, hk1, hgo⟩ := HL.out.goes.seen hnF hxN (fun d e => hfrx d e) hE
              have HL2 : Hid (Loop wA w3 n N key sp fr hl RB EB fin (.slice (some ⟨g, 0, none⟩) Z.length cap) (s.drop (p + 1)) k1 Z (takeH hl x st) V0 V1 eo G' cnt') :=
                ⟨hgo, by
                  have e : (((takeH hl x st).held : Nat) : Int) = (st.held : Int) + ll := by show ((st.held + (hl x).length : Nat) : Int) = _; rw [HLL.out]; omega
                  rw [e]; exact HM.out, HL.out.sets, HMap.out, HL.out.ent, by omega⟩
              have HK2 : Hid (k1 + 1 ≤ g0) := by have := HKK.out; show k1 + 1 ≤ g0; omega
              rw [hE] at look
              clear hgo hk1 hc2 hfrx hb3 hE
              obtain ⟨cn, hcn'⟩ : ∃ cn, cn = classNo N sp fr x := ⟨_, rfl⟩
              rw [← hcn'] at look
              rw [← hcn']
              clear hcn hwf2 hcn'
              go_wp2
              go_roundg (s.length - (p + 1))
              case measure => rw [HKX.out]; omega
              case rel => exact ⟨p + 1, Z, takeH hl x st, V0, V1, eo, G', cnt', g, cap, k1, rfl, by omega, by go_num, HL2.out, rfl, HK2.out⟩
            | false =>
              as_aux_lemma =>
              obtain ⟨k1, st1, hk1, hgo, s1, s2, s3, s4⟩ := HL.out.goes.frag hnF hxN (fun d e => hfrx d e) hE
              obtain ⟨w4, hst, hMap4, hg4⟩ := HMap.out.storeI Try.underlying3 Try.underlying101 (show cnt' < maxLen by unfold maxLen; omega) hwf2 (.bool (sp x))
              obtain ⟨eo4, he4⟩ : ∃ eo4, w4.heap[EB]? = some eo4 := ⟨w4.heap[EB]'hMap4.lt, Array.getElem?_eq_getElem hMap4.lt⟩
              have hM4 := HM.out.entered hg4 he4
              have HL4 : Hid (∀ y, (if y = classNo N sp fr x then some (Value.bool (sp x)) else G' y).getD (.bool false) = .bool (entAt N n st1.ent y)) := fun y => by
                rw [s4 y]
                by_cases e : y = classNo N sp fr x
                · simp only [if_pos e]; rfl
                · simp only [if_neg e]; exact HL.out.ent y
              have HGo := hide hgo
              have HM4 := hide hM4
              have HMap4 := hide hMap4
              have hstk := hgo.stack
              rw [List.length_cons, show (Z.map (·.2)).length = Z.length by simp] at hstk
              have hzl : Z.length ≤ 33566730 := by omega
              have HC4 : Hid (cnt' + 1 + k1 ≤ 33566730) := by show cnt' + 1 + k1 ≤ 33566730; omega
              have HK2 : Hid (k1 + 1 ≤ g0) := by have := HKK.out; show k1 + 1 ≤ g0; omega
              rw [hE] at look
              have S1 := hide s1
              have S2 := hide s2
              have S3 := hide s3
              clear hgo hk1 hc2 hfrx hb3 hE hMap4 hM4 hg4 he4 s1 s2 s3 s4 hstk HMap HM
              obtain ⟨cn, hcn'⟩ : ∃ cn, cn = classNo N sp fr x := ⟨_, rfl⟩
              rw [← hcn'] at look hst HL4 HMap4
              rw [← hcn']
              clear hcn hwf2 hcn'
              go_upto_region 21 with fail
              have hb4 := HM4.out.below
              clear q0 t2 qs look hst
              have q0 := (hb4.cell (lt_of_cell C0.out)).trans C0.out
              have hTr := HTA.out.below hb4
              have t4 := hTr.t.cell (show 4 < 7 by omega)
              simp only [tCells] at t4
              have qh := hTr.heldAt x hxN
              rw [hhv] at qh
              have HLx := hide (HTA.out.held x hxN)
              rw [hhv] at HLx
              have hst4 := HM4.out.st
              rw [show (Z.map (·.1)).reverse.length = Z.length by simp] at hst4
              have HOa := hide (ownsRow_keptAt (w' := w4.alloc (.cells #[.slice ha ll hcp] 32)) hst4 (fun b e => Below.heap_alloc _ _ _ (hst4.lt b e).2))
              have HBa : Hid ((w4.alloc (.cells #[.slice ha ll hcp] 32)).cell? ⟨w4.heap.size, 0, none⟩ = some (.slice ha ll hcp)) := by show _ = _; simp
              have hws : wA.heap.size ≤ w4.heap.size := HM4.out.size
              clear hTr hst4 hb4
              go_wp2_with (first
                | (at_builtin; refine wpList_push _ rfl _ _ rfl wA.heap.size _ Z.length _ ha ll hcp rfl HOa.out w4.heap.size rfl HBa.out (by omega) (by simp; omega) ?_; intro g5 cap5 w5 hown hgrow hat hlt; have HN := hide (HM4.out.push _ (u := .slice ha ll hcp) (by rw [show (Z.map (·.1)).reverse.length = Z.length by simp]; exact hown) hgrow hat); clear hown hgrow hat hlt))
              go_roundg (s.length - (p + 1))
              case measure => rw [HKX.out]; omega
              case rel =>
                refine ⟨p + 1, (.slice ha ll hcp, hl x) :: Z, st1, V0, V1, eo4, _, cnt' + 1, g5, cap5, k1, rfl, by omega, by go_num, ⟨HGo.out, ?_, ?_, HMap4.out.kept (HN.out.ent.trans HM4.out.ent.symm), HL4.out, HC4.out⟩, rfl, HK2.out⟩
                · have h5 := HN.out
                  rw [show (Z.map (·.1)).reverse.length = Z.length by simp] at h5
                  rw [S1.out, S2.out, S3.out, HLL.out, show (List.map (·.1) ((Value.slice ha ll hcp, hl x) :: Z)).reverse = (Z.map (·.1)).reverse ++ [Value.slice ha ll hcp] by simp]
                  exact h5
                · intro q hq
                  rcases List.mem_cons.1 hq with rfl | hq
                  · exact ⟨HLx.out, fun y hy => hin x y hy⟩
                  · exact HL.out.sets q hq
        · as_aux_lemma =>
          have ep : p = s.length := by omega
          subst ep
          rw [List.drop_length] at hL
          have HL := hide hL
          clear hL
          go_wp2
          go_roundg kk
          case measure => have := HKK.out; omega
          case rel => exact ⟨Z, st, V0, V1, eo, G', cnt', g, cap, HL.out, rfl⟩

end Go.Proofs.Qxb6602394a.T
