/-
  b1VisitReach: the walk.
-/
import Derived.Test.Qxb6602394aVisitBase
import Derived.BigRegion
namespace Go.Proofs.Qxb6602394a.T
open Go.RowKit
set_option linter.unusedVariables false

/-- The keys of a document's selections, and which are spreads. -/
abbrev keyOf_ (m : Nat → Nat) (n : Nat) (ky : Nat → Nat → ByteArray) : Nat → ByteArray := fun x => ky (own m n x) (loc m n x)
abbrev isSp (m : Nat → Nat) (n : Nat) (fg : Nat → Nat → ByteArray) : Nat → Bool := fun x => !(fg (own m n x) (loc m n x)).toList.isEmpty

set_option maxRecDepth 100000 in
set_option maxHeartbeats 3200000 in
theorem visit_any (wE : World) (MB n : Nat) (m : Nat → Nat) (par : Nat → Nat → Int) (ky fg : Nat → Nat → ByteArray) (fr : Nat → Option Nat) (ao al : Option Addr) (co cl MF MH MR : Nat) (HV RV : Nat → Value) (b3 : Option Addr) (B3 : Nat → Option Addr) (D3 : Nat → Nat) (b4 : Option Addr) (B4 : Nat → Option Addr) (D4 : Nat → Nat) (d3 d4 : Nat)
    (hE : Env wE MB n m par ky fg fr ao al co cl MF MH MR HV RV b3 B3 D3 b4 B4 D4) (hn : n ≤ 4096) (hN : first m n ≤ 4096) (hfr : ∀ x d, fr x = some d → d < n) :
    ∀ (k : Nat) (w : World) (v : Value) (S : List Nat) (st fin : St) (RB EB : Nat) (V0 V1 : Value), Goes n (isField (keyOf_ m n ky)) (isSp m n fg) fr (heldList m par n fr) S [] st fin k → fin.fields.length ≤ 33566720 → fin.ws.length ≤ 33566720 → fin.held ≤ 137489285120 → k ≤ 33566720 →
      Below wE.heap.size wE w → Before wE.heap.size w n RB EB V0 V1 st → ListAt wE v S → (∀ y, y ∈ S → y < first m n) →
      Calls Try.prog 37 #[.pointer (some ⟨MB, 0, none⟩), .slice b3 n d3, .slice b4 n d4, .slice (some ⟨EB, 0, none⟩) (n + 1) (n + 1), v, .pointer (some ⟨RB, 0, none⟩)] w fun e w' => (∃ u, e = .returned u) ∧ After wE.heap.size w w' n RB EB V0 V1 fin := by
  intro k
  induction k using Nat.strongRecOn with
  | ind k ih =>
  intro w v S st fin RB EB V0 V1 hgo G1 G2 G3 hk hBE hBef hv hS
  have IH := hide ih
  clear ih
  obtain ⟨va, vc, rfl, hrow⟩ := hv.row
  obtain ⟨eo, hmem, hent⟩ := hBef
  have hstk := hgo.stack
  have hSl : S.length ≤ 33566720 := by simp at hstk; omega
  have HT : Hid (Turn wE w w n (first m n) (isField (keyOf_ m n ky)) (isSp m n fg) fr (heldList m par n fr) RB EB V0 V1 fin nilS S k [] st V0 V1 eo) := ⟨hgo, hmem, hent, fun p hp => (by cases hp), .inl ⟨rfl, rfl⟩⟩
  have HRow := hide hrow
  have HS := hide hS
  have HE := hide hE
  have HG1 := hide G1
  have HG2 := hide G2
  have HG3 := hide G3
  have HK0 := hide hk
  have HBE := hide hBE
  clear hgo hmem hent hrow hS hE hv G1 G2 G3 hk hBE hstk
  go_enter Try.func37, Try.ntmps37
  go_wp2
  go_loopg [12, 13] S.length (fun kx vs i wr => ∃ p Z st' W0 W1 eo kk, kx = S.length - p ∧ p ≤ S.length ∧ i = .int .i64 p ∧ Turn wE w wr n (first m n) (isField (keyOf_ m n ky)) (isSp m n fg) fr (heldList m par n fr) RB EB V0 V1 fin vs (S.drop p) kk Z st' W0 W1 eo ∧ kk ≤ k)
  case atStart => exact ⟨0, [], st, V0, V1, eo, k, rfl, Nat.zero_le _, rfl, HT.out, Nat.le_refl _⟩
  case round =>
    clear HT
    obtain ⟨p, Z, st, W0, W1, eo, kk, hkx, hp, rfl, hT, hkk⟩ := hrel
    have HKX := hide hkx
    have HKK := hide hkk
    clear hkx hkk
    by_cases hlt : p < S.length
    · obtain ⟨x, hxe⟩ : ∃ x, x = S[p] := ⟨_, rfl⟩
      have hdrop : S.drop p = x :: S.drop (p + 1) := by rw [hxe]; exact List.drop_eq_getElem_cons hlt
      have hxN : x < first m n := HS.out x (by rw [hxe]; exact List.getElem_mem hlt)
      rw [hdrop] at hT
      have hb : Below wE.heap.size wE wr := HBE.out.trans hT.mem.below
      have hEr := HE.out.below hb
      obtain ⟨sb, so, rfl, hcx⟩ := HRow.out p hlt
      have qx : wr.cell? ⟨sb, so + p, none⟩ = some (.int .i64 (x : Int)) := by
        rw [hb.cell (lt_of_cell hcx), hcx, hxe]
        simp [List.getD, hlt]
      have m1 := hEr.row.cell (show 1 < 6 by omega)
      have m2 := hEr.row.cell (show 2 < 6 by omega)
      have m3 := hEr.row.cell (show 3 < 6 by omega)
      have m4 := hEr.row.cell (show 4 < 6 by omega)
      simp only [mCells] at m1 m2 m3 m4
      have how := own_lt n x hxN
      have hlw := loc_lt hxN
      obtain ⟨bo, oo, rfl, ko⟩ := owners_row hEr.model.o x hxN
      obtain ⟨bl, ol, rfl, kl⟩ := locals_row hEr.model.l x hxN
      obtain ⟨e3, o3, rfl, y3⟩ := hEr.k.outer (own m n x) how.1
      obtain ⟨e4, o4, rfl, y4⟩ := hEr.g.outer (own m n x) how.1
      obtain ⟨f3, p3, h3, u3⟩ := hEr.k.inner (own m n x) how.1 (loc m n x) hlw.1
      obtain ⟨f4, p4, h4, u4⟩ := hEr.g.inner (own m n x) how.1 (loc m n x) hlw.1
      have qo : wr.cell? ⟨bo, oo + x, none⟩ = some (.int .i64 (own m n x : Int)) := ko
      have ql : wr.cell? ⟨bl, ol + x, none⟩ = some (.int .i64 (loc m n x : Int)) := kl
      have q3 : wr.cell? ⟨e3, o3 + own m n x, none⟩ = some (.slice (some ⟨f3, p3, none⟩) (m (own m n x)) (D3 (own m n x))) := by rw [← h3]; exact y3
      have q4 : wr.cell? ⟨e4, o4 + own m n x, none⟩ = some (.slice (some ⟨f4, p4, none⟩) (m (own m n x)) (D4 (own m n x))) := by rw [← h4]; exact y4
      have r3 : wr.cell? ⟨f3, p3 + loc m n x, none⟩ = some (.string (ky (own m n x) (loc m n x))) := u3
      have r4 : wr.cell? ⟨f4, p4 + loc m n x, none⟩ = some (.string (fg (own m n x) (loc m n x))) := u4
      have qf := hEr.model.f x hxN
      have qh := hEr.model.heldAt x hxN
      obtain ⟨ha, hcp, hhv, _⟩ := (hEr.model.held x hxN).row
      rw [hhv] at qh
      have hmono := hT.goes.mono
      have hstk := hT.goes.stack
      have e0 := HG1.out
      have e1 := HG2.out
      have e2 := HG3.out
      have c0 : st.fields.length ≤ 33566720 := by omega
      have c1 : st.ws.length ≤ 33566720 := by omega
      have c2 : st.held ≤ 137489285120 := by omega
      have hlx : (heldList m par n fr x).length ≤ 4096 := Nat.le_trans heldList_length hN
      have hzl : Z.length ≤ 33566720 := by
        rw [show (Z.map (·.2)).length = Z.length by simp] at hstk
        have := HKK.out; have := HK0.out; omega
      have x0 : (0 : Int) ≤ (x : Int) := by omega
      have x1 : (x : Int) < (first m n : Int) := by omega
      have p0 : (0 : Int) ≤ (p : Int) := by omega
      have p1 : (p : Int) < (S.length : Int) := by omega
      have oi0 : (0 : Int) ≤ (own m n x : Int) := by omega
      have oi1 : (own m n x : Int) < (n : Int) := by omega
      have li0 : (0 : Int) ≤ (loc m n x : Int) := by omega
      have li1 : (loc m n x : Int) < (m (own m n x) : Int) := by omega
      obtain ⟨ll, hll⟩ : ∃ ll, ll = (heldList m par n fr x).length := ⟨_, rfl⟩
      rw [← hll] at qh hlx hhv
      have HLL := hide hll.symm
      have HHV := hide hhv
      have HB := hide hb
      have H4 := hide h4
      have HOW := hide how.1
      have HLW := hide hlw.1
      clear hcx hxe hdrop hmono hstk e0 e1 e2 hEr ko kl y3 y4 h3 h4 u3 u4 hll hhv hb hlw how
      by_cases hF : (ky (own m n x) (loc m n x)).toList.isEmpty = false
      · as_aux_lemma =>
        obtain ⟨k1, hk1, hgo⟩ := hT.goes.isfield (by simp [isField, keyOf_, hF])
        have HGo := hide hgo
        have HK1 := hide hk1
        have r0 := hT.mem.r.cell (show 0 < 3 by omega)
        simp only [rCells] at r0
        have HOa := hide (hT.mem.o0.below ((Below.refl _ _).alloc (Nat.le_refl _) (.cells #[.int .i64 (x : Int)] 3)))
        have HBa : Hid ((wr.alloc (.cells #[.int .i64 (x : Int)] 3)).cell? ⟨wr.heap.size, 0, none⟩ = some (.int .i64 (x : Int))) := by show _ = _; simp
        have hws : wE.heap.size ≤ wr.heap.size := Nat.le_trans hT.mem.l.1 hT.mem.size
        have HTn := hide hT
        clear hT hgo hk1
        go_upto_region 9 with (first
          | (at_builtin; refine wpList_appN _ rfl _ _ rfl wE.heap.size W0 st.fields x rfl HOa.out wr.heap.size rfl HBa.out (by omega) (by simp; omega) ?_; intro g1 cap1 w1 hown hgrow hat hlt; have x3 := HTn.out.mem.rgrown0 _ hgrow; have y1 := x3.cell (show 0 < 3 by omega); have y2 := x3.frozen 0; simp only [rCells] at y1; have HN := hide (HTn.out.mem.app0 _ hown hgrow hat); clear hown hgrow hat hlt x3))
        obtain ⟨w2, hw2⟩ : ∃ w2, w2 = w1.setCell ⟨RB, 0, none⟩ (.slice (some ⟨g1, 0, none⟩) (st.fields.length + 1) cap1) := ⟨_, rfl⟩
        have hM := HN.out
        rw [← hw2] at hM
        rw [← hw2]
        obtain ⟨nv, hnv⟩ : ∃ nv, nv = Value.slice (some ⟨g1, 0, none⟩) (st.fields.length + 1) cap1 := ⟨_, rfl⟩
        rw [← hnv] at hM
        have hb2 : Below wE.heap.size wE w2 := HBE.out.trans hM.below
        clear HN HOa HBa y1 y2 r0 m1 m2 m3 m4 qx qo ql q3 q4 r3 r4 qf qh hw2 hnv
        have hEr := HE.out.below hb2
        have m4 := hEr.row.cell (show 4 < 6 by omega)
        simp only [mCells] at m4
        have qh := hEr.model.heldAt x hxN
        rw [HHV.out] at qh
        have hent := HTn.out.ent.of_block (hM.ent.trans HTn.out.mem.ent.symm)
        have hk2 : k1 ≤ k := by have := HKK.out; have := HK1.out; omega
        have HK2 := hide hk2
        have HEnt := hide hent
        clear hEr hk2 hent
        by_cases hh : heldList m par n fr x = []
        · have HT2 : Hid (Turn wE w w2 n (first m n) (isField (keyOf_ m n ky)) (isSp m n fg) fr (heldList m par n fr) RB EB V0 V1 fin u12 (S.drop (p + 1)) k1 Z (takeF (heldList m par n fr) x st) nv W1 eo) :=
            ⟨HGo.out, by rw [show (takeF (heldList m par n fr) x st).ws = st.ws by simp [takeF, hh]]; exact hM, HEnt.out, HTn.out.sets, HTn.out.form⟩
          have hl0 : ll = 0 := by have := HLL.out; rw [hh] at this; exact this.symm
          rw [hl0] at qh
          clear hM hb2 hl0
          go_wp2
          go_roundg (S.length - (p + 1))
          case measure => rw [HKX.out]; omega
          case rel => exact ⟨p + 1, Z, takeF (heldList m par n fr) x st, nv, W1, eo, k1, rfl, by omega, by go_num, HT2.out, HK2.out⟩
        · have hpos : 0 < ll := by rw [← HLL.out]; exact List.length_pos_iff.2 hh
          have r2 := hM.r.cell (show 2 < 3 by omega)
          simp only [rCells] at r2
          have HOa := hide (hM.o1.below ((Below.refl _ _).alloc (Nat.le_refl _) (.cells #[.int .i64 (x : Int)] 3)))
          have HBa : Hid ((w2.alloc (.cells #[.int .i64 (x : Int)] 3)).cell? ⟨w2.heap.size, 0, none⟩ = some (.int .i64 (x : Int))) := by show _ = _; simp
          have hws : wE.heap.size ≤ w2.heap.size := Nat.le_trans hM.l.1 hM.size
          have HM2 := hide hM
          clear hM hb2
          go_wp2_with (first
            | (at_builtin; refine wpList_appN _ rfl _ _ rfl wE.heap.size W1 st.ws x rfl HOa.out w2.heap.size rfl HBa.out (by omega) (by simp; omega) ?_; intro g3 cap3 w3 hown hgrow hat hlt; have x3 := HM2.out.rgrown1 _ hgrow; have y1 := x3.cell (show 2 < 3 by omega); have y2 := x3.frozen 2; simp only [rCells] at y1; have HN := hide (HM2.out.app1 _ hown hgrow hat); clear hown hgrow hat hlt x3))
          go_roundg (S.length - (p + 1))
          case measure => rw [HKX.out]; omega
          case rel =>
            refine ⟨p + 1, Z, takeF (heldList m par n fr) x st, nv, .slice (some ⟨g3, 0, none⟩) (st.ws.length + 1) cap3, eo, k1, rfl, by omega, by go_num, ⟨HGo.out, ?_, HEnt.out.of_block (HN.out.ent.trans HM2.out.ent.symm), HTn.out.sets, HTn.out.form⟩, HK2.out⟩
            rw [show (takeF (heldList m par n fr) x st).ws = st.ws ++ [x] by simp [takeF, hh]]
            exact HN.out
      · as_aux_lemma =>
        have hF' : (ky (own m n x) (loc m n x)).toList.isEmpty = true := by simpa using hF
        have hnF : isField (keyOf_ m n ky) x = false := by simp [isField, keyOf_, hF']
        have r1 := hT.mem.r.cell (show 1 < 3 by omega)
        simp only [rCells] at r1
        have z1 := hT.mem.r.frozen 1
        have nM : RB ≠ MB := by have h1 : MB < wE.heap.size := HE.out.row.lt; have := hT.mem.l.2.1; omega
        have nH : RB ≠ MH := by have h1 : MH < wE.heap.size := lt_of_cell (HE.out.model.heldAt x hxN); have := hT.mem.l.2.1; omega
        have HTn := hide hT
        clear hT hF
        go_upto_region 11 with fail
        clear qx m1 m2 qo ql q3 r3
        go_region
        go_upto_region 12 with fail
        obtain ⟨w2, hw2⟩ : ∃ w2, w2 = (wr.setCell ⟨RB, 1, none⟩ (.int .i64 ((st.held : Int) + ll))).drew := ⟨_, rfl⟩
        have hM := (HTn.out.mem.setR ((st.held : Int) + ll)).drew
        rw [← hw2] at hM
        rw [← hw2]
        have HM := hide hM
        have hb2 : Below wE.heap.size wE w2 := HBE.out.trans hM.below
        have HEnt := hide (HTn.out.ent.of_block (hM.ent.trans HTn.out.mem.ent.symm))
        clear hw2 hM r1 z1 q4 r4 m3 m4 qf qh
        have hEr := HE.out.below hb2
        have q4 : w2.cell? ⟨e4, o4 + own m n x, none⟩ = some (.slice (some ⟨f4, p4, none⟩) (m (own m n x)) (D4 (own m n x))) := by rw [← H4.out]; exact RowAt.cell hEr.g.outer HOW.out
        have r4 : w2.cell? ⟨f4, p4 + loc m n x, none⟩ = some (.string (fg (own m n x) (loc m n x))) := by
          have h5 := hEr.g.inner (own m n x) HOW.out
          rw [H4.out] at h5
          exact h5.cell HLW.out
        by_cases hs : (fg (own m n x) (loc m n x)).toList.isEmpty = true
        · as_aux_lemma =>
          obtain ⟨k1, hk1, hgo⟩ := HTn.out.goes.isinline hnF (by simp [isSp, hs])
          have HGo := hide hgo
          have HK2 : Hid (k1 ≤ k) := by have := HKK.out; show k1 ≤ k; omega
          clear hgo hk1 hEr hb2
          go_upto_region 13 with fail
          clear q4 r4
          have hb5 : Below wE.heap.size wE w2 := HBE.out.trans HM.out.below
          have hEr := HE.out.below hb5
          have m4 := hEr.row.cell (show 4 < 6 by omega)
          simp only [mCells] at m4
          have qh := hEr.model.heldAt x hxN
          rw [HHV.out] at qh
          have HLx := hide (HE.out.model.held x hxN)
          rw [HHV.out] at HLx
          have hst4 := HM.out.st
          rw [show (Z.map (·.1)).reverse.length = Z.length by simp] at hst4
          have HOa := hide (ownsRow_keptAt (w' := w2.alloc (.cells #[.slice ha ll hcp] 32)) hst4 (fun b e => Below.heap_alloc _ _ _ (hst4.lt b e).2))
          have HBa : Hid ((w2.alloc (.cells #[.slice ha ll hcp] 32)).cell? ⟨w2.heap.size, 0, none⟩ = some (.slice ha ll hcp)) := by show _ = _; simp
          have hws : wE.heap.size ≤ w2.heap.size := Nat.le_trans HM.out.l.1 HM.out.size
          clear hEr hst4 hb5
          go_wp2_with (first
            | (at_builtin; refine wpList_push _ rfl _ _ rfl wE.heap.size _ Z.length _ ha ll hcp rfl HOa.out w2.heap.size rfl HBa.out (by omega) (by simp; omega) ?_; intro g5 cap5 w5 hown hgrow hat hlt; have HN := hide (HM.out.push _ (u := .slice ha ll hcp) (by rw [show (Z.map (·.1)).reverse.length = Z.length by simp]; exact hown) hgrow hat); clear hown hgrow hat hlt))
          go_roundg (S.length - (p + 1))
          case measure => rw [HKX.out]; omega
          case rel =>
            refine ⟨p + 1, (.slice ha ll hcp, heldList m par n fr x) :: Z, takeH (heldList m par n fr) x st, W0, W1, eo, k1, rfl, by omega, by go_num, ⟨HGo.out, ?_, HEnt.out.of_block (HN.out.ent.trans HM.out.ent.symm), ?_, .inr ⟨g5, cap5, rfl⟩⟩, HK2.out⟩
            · have h5 := HN.out
              rw [show (Z.map (·.1)).reverse.length = Z.length by simp] at h5
              rw [show ((takeH (heldList m par n fr) x st).held : Nat) = st.held + ll by rw [← HLL.out]; rfl, show (List.map (·.1) ((Value.slice ha ll hcp, heldList m par n fr x) :: Z)).reverse = (Z.map (·.1)).reverse ++ [Value.slice ha ll hcp] by simp]
              exact h5
            · intro q hq
              rcases List.mem_cons.1 hq with rfl | hq
              · exact ⟨HLx.out, fun y hy => heldList_lt hy⟩
              · exact HTn.out.sets q hq
        · have hs' : (fg (own m n x) (loc m n x)).toList.isEmpty = false := by simpa using hs
          have hsp : isSp m n fg x = true := by simp [isSp, hs']
          have m3 := hEr.row.cell (show 3 < 6 by omega)
          simp only [mCells] at m3
          have qf := hEr.model.f x hxN
          clear hs hEr hb2
          cases hfx : fr x with
          | none =>
            as_aux_lemma =>
            have hsl : slotOf fr n x = n := by unfold slotOf; rw [hfx]
            have hsn : n < n + 1 := by omega
            have qe := HEnt.out.cell hsn
            have ze := HEnt.out.frozen n
            rw [hfx] at qf
            simp only [fragVal] at qf
            have HSl := hide hsl
            cases hEn : st.ent n with
            | true =>
              as_aux_lemma =>
              obtain ⟨k1, hk1, hgo⟩ := HTn.out.goes.isagain hnF hsp (by rw [HSl.out]; exact hEn)
              have HT2 : Hid (Turn wE w w2 n (first m n) (isField (keyOf_ m n ky)) (isSp m n fg) fr (heldList m par n fr) RB EB V0 V1 fin u12 (S.drop (p + 1)) k1 Z (takeH (heldList m par n fr) x st) W0 W1 eo) :=
                ⟨hgo, by rw [show ((takeH (heldList m par n fr) x st).held : Nat) = st.held + ll by rw [← HLL.out]; rfl]; exact HM.out, HEnt.out, HTn.out.sets, HTn.out.form⟩
              have HK2 : Hid (k1 ≤ k) := by have := HKK.out; show k1 ≤ k; omega
              rw [hEn] at qe
              clear hgo hk1 hsl hfx hEn ze
              go_wp2
              go_roundg (S.length - (p + 1))
              case measure => rw [HKX.out]; omega
              case rel => exact ⟨p + 1, Z, takeH (heldList m par n fr) x st, W0, W1, eo, k1, rfl, by omega, by go_num, HT2.out, HK2.out⟩
            | false =>
              as_aux_lemma =>
              obtain ⟨k1, hk1, hgo⟩ := HTn.out.goes.isanew hnF hsp (by rw [HSl.out]; exact hEn)
              have HGo := hide hgo
              have HK2 : Hid (k1 ≤ k) := by have := HKK.out; show k1 ≤ k; omega
              obtain ⟨eo4, hM4, hE4⟩ := HM.out.setE HEnt.out n (.bool true)
              have HM40 := hide hM4
              have HE40 := hide hE4
              rw [hEn] at qe
              clear hgo hk1 hsl hfx hEn hM4 hE4
              go_upto_region 19 with fail
              obtain ⟨w4, hw4⟩ : ∃ w4, w4 = w2.setCell ⟨EB, n, none⟩ (.bool true) := ⟨_, rfl⟩
              have HM4 := HM40
              have HE4 := HE40
              rw [← hw4] at HM4 HE4
              rw [← hw4]
              clear hw4 HM40 HE40 qe ze qf m3 q4 r4
              have HEnt4 : Hid (w4.rowIs EB 4 (n + 1) (fun d => .bool ((enter (slotOf fr n x) (takeH (heldList m par n fr) x st)).ent d))) := by
                refine World.rowIs.congr HE4.out (fun j hj => ?_)
                rw [HSl.out]
                show (if j = n then Value.bool true else Value.bool (st.ent j)) = Value.bool (if j = n then true else st.ent j)
                split <;> rfl
              have hb5 : Below wE.heap.size wE w4 := HBE.out.trans HM4.out.below
              have hEr := HE.out.below hb5
              have m4 := hEr.row.cell (show 4 < 6 by omega)
              simp only [mCells] at m4
              have qh := hEr.model.heldAt x hxN
              rw [HHV.out] at qh
              have HLx := hide (HE.out.model.held x hxN)
              rw [HHV.out] at HLx
              have hst4 := HM4.out.st
              rw [show (Z.map (·.1)).reverse.length = Z.length by simp] at hst4
              have HOa := hide (ownsRow_keptAt (w' := w4.alloc (.cells #[.slice ha ll hcp] 32)) hst4 (fun b e => Below.heap_alloc _ _ _ (hst4.lt b e).2))
              have HBa : Hid ((w4.alloc (.cells #[.slice ha ll hcp] 32)).cell? ⟨w4.heap.size, 0, none⟩ = some (.slice ha ll hcp)) := by show _ = _; simp
              have hws : wE.heap.size ≤ w4.heap.size := Nat.le_trans HM4.out.l.1 HM4.out.size
              clear hEr hst4 hb5
              go_wp2_with (first
                | (at_builtin; refine wpList_push _ rfl _ _ rfl wE.heap.size _ Z.length _ ha ll hcp rfl HOa.out w4.heap.size rfl HBa.out (by omega) (by simp; omega) ?_; intro g5 cap5 w5 hown hgrow hat hlt; have HN := hide (HM4.out.push _ (u := .slice ha ll hcp) (by rw [show (Z.map (·.1)).reverse.length = Z.length by simp]; exact hown) hgrow hat); clear hown hgrow hat hlt))
              go_roundg (S.length - (p + 1))
              case measure => rw [HKX.out]; omega
              case rel =>
                refine ⟨p + 1, (.slice ha ll hcp, heldList m par n fr x) :: Z, enter (slotOf fr n x) (takeH (heldList m par n fr) x st), W0, W1, eo4, k1, rfl, by omega, by go_num, ⟨HGo.out, ?_, HEnt4.out.of_block (HN.out.ent.trans HM4.out.ent.symm), ?_, .inr ⟨g5, cap5, rfl⟩⟩, HK2.out⟩
                · have h5 := HN.out
                  rw [show (Z.map (·.1)).reverse.length = Z.length by simp] at h5
                  rw [show ((enter (slotOf fr n x) (takeH (heldList m par n fr) x st)).held : Nat) = st.held + ll by rw [← HLL.out]; rfl, show (List.map (·.1) ((Value.slice ha ll hcp, heldList m par n fr x) :: Z)).reverse = (Z.map (·.1)).reverse ++ [Value.slice ha ll hcp] by simp]
                  exact h5
                · intro q hq
                  rcases List.mem_cons.1 hq with rfl | hq
                  · exact ⟨HLx.out, fun y hy => heldList_lt hy⟩
                  · exact HTn.out.sets q hq
          | some d =>
            as_aux_lemma =>
            have hsl : slotOf fr n x = d := by unfold slotOf; rw [hfx]
            have hdn := hfr x d hfx
            have hsn : d < n + 1 := by omega
            have qe := HEnt.out.cell hsn
            have ze := HEnt.out.frozen d
            rw [hfx] at qf
            simp only [fragVal] at qf
            have HSl := hide hsl
            cases hEn : st.ent d with
            | true =>
              as_aux_lemma =>
              obtain ⟨k1, hk1, hgo⟩ := HTn.out.goes.isagain hnF hsp (by rw [HSl.out]; exact hEn)
              have HT2 : Hid (Turn wE w w2 n (first m n) (isField (keyOf_ m n ky)) (isSp m n fg) fr (heldList m par n fr) RB EB V0 V1 fin u12 (S.drop (p + 1)) k1 Z (takeH (heldList m par n fr) x st) W0 W1 eo) :=
                ⟨hgo, by rw [show ((takeH (heldList m par n fr) x st).held : Nat) = st.held + ll by rw [← HLL.out]; rfl]; exact HM.out, HEnt.out, HTn.out.sets, HTn.out.form⟩
              have HK2 : Hid (k1 ≤ k) := by have := HKK.out; show k1 ≤ k; omega
              rw [hEn] at qe
              clear hgo hk1 hsl hfx hEn ze
              go_wp2
              go_roundg (S.length - (p + 1))
              case measure => rw [HKX.out]; omega
              case rel => exact ⟨p + 1, Z, takeH (heldList m par n fr) x st, W0, W1, eo, k1, rfl, by omega, by go_num, HT2.out, HK2.out⟩
            | false =>
              as_aux_lemma =>
              obtain ⟨k1, hk1, hgo⟩ := HTn.out.goes.isanew hnF hsp (by rw [HSl.out]; exact hEn)
              have HGo := hide hgo
              have HK2 : Hid (k1 ≤ k) := by have := HKK.out; show k1 ≤ k; omega
              obtain ⟨eo4, hM4, hE4⟩ := HM.out.setE HEnt.out d (.bool true)
              have HM40 := hide hM4
              have HE40 := hide hE4
              rw [hEn] at qe
              clear hgo hk1 hsl hfx hEn hM4 hE4
              go_upto_region 19 with fail
              obtain ⟨w4, hw4⟩ : ∃ w4, w4 = w2.setCell ⟨EB, d, none⟩ (.bool true) := ⟨_, rfl⟩
              have HM4 := HM40
              have HE4 := HE40
              rw [← hw4] at HM4 HE4
              rw [← hw4]
              clear hw4 HM40 HE40 qe ze qf m3 q4 r4
              have HEnt4 : Hid (w4.rowIs EB 4 (n + 1) (fun d => .bool ((enter (slotOf fr n x) (takeH (heldList m par n fr) x st)).ent d))) := by
                refine World.rowIs.congr HE4.out (fun j hj => ?_)
                rw [HSl.out]
                show (if j = d then Value.bool true else Value.bool (st.ent j)) = Value.bool (if j = d then true else st.ent j)
                split <;> rfl
              have hb5 : Below wE.heap.size wE w4 := HBE.out.trans HM4.out.below
              have hEr := HE.out.below hb5
              have m4 := hEr.row.cell (show 4 < 6 by omega)
              simp only [mCells] at m4
              have qh := hEr.model.heldAt x hxN
              rw [HHV.out] at qh
              have HLx := hide (HE.out.model.held x hxN)
              rw [HHV.out] at HLx
              have hst4 := HM4.out.st
              rw [show (Z.map (·.1)).reverse.length = Z.length by simp] at hst4
              have HOa := hide (ownsRow_keptAt (w' := w4.alloc (.cells #[.slice ha ll hcp] 32)) hst4 (fun b e => Below.heap_alloc _ _ _ (hst4.lt b e).2))
              have HBa : Hid ((w4.alloc (.cells #[.slice ha ll hcp] 32)).cell? ⟨w4.heap.size, 0, none⟩ = some (.slice ha ll hcp)) := by show _ = _; simp
              have hws : wE.heap.size ≤ w4.heap.size := Nat.le_trans HM4.out.l.1 HM4.out.size
              clear hEr hst4 hb5
              go_wp2_with (first
                | (at_builtin; refine wpList_push _ rfl _ _ rfl wE.heap.size _ Z.length _ ha ll hcp rfl HOa.out w4.heap.size rfl HBa.out (by omega) (by simp; omega) ?_; intro g5 cap5 w5 hown hgrow hat hlt; have HN := hide (HM4.out.push _ (u := .slice ha ll hcp) (by rw [show (Z.map (·.1)).reverse.length = Z.length by simp]; exact hown) hgrow hat); clear hown hgrow hat hlt))
              go_roundg (S.length - (p + 1))
              case measure => rw [HKX.out]; omega
              case rel =>
                refine ⟨p + 1, (.slice ha ll hcp, heldList m par n fr x) :: Z, enter (slotOf fr n x) (takeH (heldList m par n fr) x st), W0, W1, eo4, k1, rfl, by omega, by go_num, ⟨HGo.out, ?_, HEnt4.out.of_block (HN.out.ent.trans HM4.out.ent.symm), ?_, .inr ⟨g5, cap5, rfl⟩⟩, HK2.out⟩
                · have h5 := HN.out
                  rw [show (Z.map (·.1)).reverse.length = Z.length by simp] at h5
                  rw [show ((enter (slotOf fr n x) (takeH (heldList m par n fr) x st)).held : Nat) = st.held + ll by rw [← HLL.out]; rfl, show (List.map (·.1) ((Value.slice ha ll hcp, heldList m par n fr x) :: Z)).reverse = (Z.map (·.1)).reverse ++ [Value.slice ha ll hcp] by simp]
                  exact h5
                · intro q hq
                  rcases List.mem_cons.1 hq with rfl | hq
                  · exact ⟨HLx.out, fun y hy => heldList_lt hy⟩
                  · exact HTn.out.sets q hq
    · as_aux_lemma =>
      have ep : p = S.length := by omega
      subst ep
      rw [List.drop_length] at hT
      rcases hT.form with ⟨hvs, hZ⟩ | ⟨g, cap, hvs⟩
      · subst hvs hZ
        have hst : st = fin := hT.goes.ended.1
        subst hst
        have HAf : Hid (After wE.heap.size w wr n RB EB V0 V1 st) := ⟨eo, W0, W1, hT.mem.drop, hT.ent⟩
        clear hT
        go_wp2
        obtain ⟨wo, rfl⟩ : ∃ wo : World, wo = wr := ⟨_, rfl⟩
        go_loopg [18] 0 (fun kx j wr => j = .int .i64 (-1) ∧ wo = wr)
        case atStart => exact ⟨rfl, rfl⟩
        case round =>
          obtain ⟨rfl, rfl⟩ := hrel
          go_wp2
          exact ⟨rfl, .tuple #[], by simp [results, Try.results37], ⟨_, rfl⟩, HAf.out⟩
      · subst hvs
        have hst0 := hT.mem.st
        rw [show (Z.map (·.1)).reverse.length = Z.length by simp] at hst0
        have hcap := ownsRow_caps hst0
        have hzl := hT.goes.stack
        rw [show (Z.map (·.2)).length = Z.length by simp] at hzl
        have hzb : Z.length ≤ 33566720 := by have := HKK.out; have := HK0.out; simp at hzl; omega
        have HT := hide hT
        clear hT hst0 hzl
        obtain ⟨L, hL⟩ : ∃ L, L = Z.length := ⟨_, rfl⟩
        rw [← hL] at hzb hcap
        have HTL : Hid (Turn wE w wr n (first m n) (isField (keyOf_ m n ky)) (isSp m n fg) fr (heldList m par n fr) RB EB V0 V1 fin (.slice (some ⟨g, 0, none⟩) Z.length cap) [] kk Z st W0 W1 eo) := HT
        rw [← hL]
        have HLZ := hide hL
        clear hL HT
        obtain ⟨cap1, cap2⟩ := hcap
        unfold maxLen at cap2
        go_wp2
        go_loopg [18] kk (fun kx j wr => ∃ Z st W0 W1 eo, j = .int .i64 ((Z.length : Int) - 1) ∧ Z.length ≤ L ∧ Turn wE w wr n (first m n) (isField (keyOf_ m n ky)) (isSp m n fg) fr (heldList m par n fr) RB EB V0 V1 fin (.slice (some ⟨g, 0, none⟩) Z.length cap) [] kx Z st W0 W1 eo ∧ kx ≤ k)
        case atStart => exact ⟨Z, st, W0, W1, eo, by rw [HLZ.out], by rw [HLZ.out]; exact Nat.le_refl _, HTL.out, HKK.out⟩
        case round =>
          clear HTL HLZ
          obtain ⟨Z, st, W0, W1, eo, rfl, hZL, hT, hgk⟩ := hrel
          cases Z with
          | nil =>
            as_aux_lemma =>
            have hst : st = fin := hT.goes.ended.1
            subst hst
            have HAf : Hid (After wE.heap.size w wr n RB EB V0 V1 st) := ⟨eo, W0, W1, hT.mem.drop, hT.ent⟩
            clear hT
            simp only [List.length_nil]
            go_wp2
            exact ⟨rfl, .tuple #[], by simp [results, Try.results37], ⟨_, rfl⟩, HAf.out⟩
          | cons zp Z =>
            as_aux_lemma =>
            obtain ⟨u, s⟩ := zp
            obtain ⟨k0, hk0, hgo⟩ : ∃ k0, gk = k0 + 1 ∧ Goes n (isField (keyOf_ m n ky)) (isSp m n fg) fr (heldList m par n fr) s (Z.map (·.2)) st fin k0 := hT.goes.popped
            obtain ⟨mid, k1, k2, hg1, hg2, hk12⟩ := Goes.split (T := []) (U := Z.map (·.2)) hgo
            have hsets := hT.sets (u, s) (by simp)
            have hmem := hT.mem
            rw [show (List.map (·.1) ((u, s) :: Z)).reverse = (Z.map (·.1)).reverse ++ [u] by simp, show ((u, s) :: Z).length = (Z.map (·.1)).reverse.length + 1 by simp] at hmem
            have hst := hmem.st
            rw [show ((Z.map (·.1)).reverse ++ [u]).length = (Z.map (·.1)).reverse.length + 1 by simp] at hst
            have htop := ownsRow_last hst
            have hpop := hmem.pop
            rw [show (Z.map (·.1)).reverse.length = Z.length by simp] at htop hpop
            have hb : Below wE.heap.size wE wr := HBE.out.trans hT.mem.below
            have HBf : Hid (Before wE.heap.size wr n RB EB W0 W1 st) := ⟨eo, hT.mem.self, hT.ent⟩
            have HSr : Hid (∀ p, p ∈ Z → ListAt wE p.1 p.2 ∧ ∀ y, y ∈ p.2 → y < first m n) := fun p hp => hT.sets p (by simp [hp])
            have hmono := hg2.mono
            have e0 := HG1.out
            have e1 := HG2.out
            have e2 := HG3.out
            have ek := HK0.out
            have f0 : mid.fields.length ≤ 33566720 := by omega
            have f1 : mid.ws.length ≤ 33566720 := by omega
            have f2 : mid.held ≤ 137489285120 := by omega
            have hk1 : k1 < k := by omega
            have hk1' : k1 ≤ 33566720 := by omega
            have hk2 : k2 < gk := by omega
            have hk2' : k2 ≤ k := by omega
            have HCall := hide (IH.out k1 hk1 wr u s st mid RB EB W0 W1 hg1 f0 f1 f2 hk1' hb HBf.out hsets.1 hsets.2)
            have HPop := hide hpop
            have HG := hide hg2
            have HK2 := hide hk2
            have HK2' := hide hk2'
            rw [show (((u, s) :: Z).length : Int) - 1 = (Z.length : Int) by simp]
            rw [List.length_cons] at hZL
            obtain ⟨zl, hzl⟩ : ∃ zl, zl = Z.length := ⟨_, rfl⟩
            rw [← hzl] at htop hZL
            rw [← hzl]
            have HZ := hide hzl
            have j0 : (0 : Int) ≤ (zl : Int) := by omega
            have j1 : (zl : Int) < (L : Int) := by omega
            clear hT hk0 hgo hg1 hg2 hk12 hsets hmem hst hpop hb hmono e0 e1 e2 ek f0 f1 f2 hk1 hk1' hk2 hk2' hzl HBf
            go_wp2_with fail
            refine HCall.out.mono ?_
            rintro e w2 ⟨⟨rr, rfl⟩, ⟨eo2, U0, U1, hM2, hE2⟩⟩
            have HT2 : Hid (Turn wE w w2 n (first m n) (isField (keyOf_ m n ky)) (isSp m n fg) fr (heldList m par n fr) RB EB V0 V1 fin (.slice (some ⟨g, 0, none⟩) Z.length cap) [] k2 Z mid U0 U1 eo2) := ⟨HG.out, HPop.out.trans hM2, hE2, HSr.out, .inr ⟨g, cap, rfl⟩⟩
            clear hM2 hE2 htop HCall
            go_wp2
            go_roundg k2
            case measure => exact HK2.out
            case rel => exact ⟨Z, mid, U0, U1, eo2, by rw [← HZ.out], by rw [← HZ.out]; omega, HT2.out, HK2'.out⟩

end Go.Proofs.Qxb6602394a.T
