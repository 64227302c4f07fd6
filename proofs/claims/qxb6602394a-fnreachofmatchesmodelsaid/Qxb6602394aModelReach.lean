/-
  b1ModelReach.
-/
import Derived.Test.Qxb6602394aVisit
namespace Go.Proofs.Qxb6602394a.T
open Go.RowKit
set_option linter.unusedVariables false

theorem zero45 (w : World) : (zeroValue 45).run Try.prog w = .ok (.agg #[nilS, .int .i64 0, nilS]) w := by kernel_rfl

theorem row3 (w : World) (ty : TypeId) (a b c : Value) : (w.alloc (.cells #[a, b, c] ty)).rowIs w.heap.size ty 3 (rCells a b c) :=
  World.rowIs_alloc w #[a, b, c] ty (rCells a b c) (fun i hi => by
    have : i < 3 := by simpa using hi
    match i, this with
    | 0, _ => rfl
    | 1, _ => rfl
    | 2, _ => rfl)

/-- The start of a visit. -/
theorem before_start {lo : Nat} {w : World} {n RB EB : Nat} {st : St} (hst : st.fields = [] ∧ st.ws = [] ∧ st.held = 0) (hlo : lo ≤ w.heap.size) (hr : lo ≤ RB) (he : lo ≤ EB) (hne : RB ≠ EB) (h : w.rowIs RB 45 3 (rCells nilS (.int .i64 0) nilS)) (hE : w.rowIs EB 4 (n + 1) (fun d => .bool (st.ent d))) :
    Before lo w n RB EB nilS nilS st := by
  refine ⟨w.heap[EB]'hE.lt, ?_, hE⟩
  rw [hst.1, hst.2.1, hst.2.2]
  exact ⟨rfl, rfl, rfl, Nat.le_refl _, fun _ _ _ _ _ _ => rfl, ⟨hlo, hr, he, hne⟩, fun g e => (by rcases e with e | e <;> cases e), h, Array.getElem?_eq_getElem hE.lt, ⟨World.ownsRow_nil _ _ _ _, fun _ => rfl⟩, ⟨World.ownsRow_nil _ _ _ _, fun _ => rfl⟩, World.ownsRow_nil _ _ _ _, fun g e => (by cases e), fun g e => (by cases e), fun g e => (by cases e), fun g e => (by cases e), fun g e => (by cases e), fun g e => (by cases e)⟩

set_option maxRecDepth 100000 in
set_option maxHeartbeats 1600000 in
theorem modelReach_any (w : World) (MB n : Nat) (m : Nat → Nat) (par : Nat → Nat → Int) (ky fg : Nat → Nat → ByteArray) (fr : Nat → Option Nat) (ao al : Option Addr) (co cl MF MH MR : Nat) (HV RV : Nat → Value) (b3 : Option Addr) (B3 : Nat → Option Addr) (D3 : Nat → Nat) (b4 : Option Addr) (B4 : Nat → Option Addr) (D4 : Nat → Nat) (d3 d4 : Nat)
    (hE : Env w MB n m par ky fg fr ao al co cl MF MH MR HV RV b3 B3 D3 b4 B4 D4) (hn : n ≤ 4096) (hN : first m n ≤ 4096) (hfr : ∀ x d, fr x = some d → d < n) (c : Int) (hc : c < (first m n : Int) + n) (fin : St) (k : Nat)
    (hgo : Goes n (isField (keyOf_ m n ky)) (isSp m n fg) fr (heldList m par n fr) (classList (first m n) (heldList m par n fr) (rootsTo m par n (first m n)) c) [] (startSt (first m n) c) fin k) (hk : k ≤ 33566720) :
    Calls Try.prog 21 #[.pointer (some ⟨MB, 0, none⟩), .slice b3 n d3, .slice b4 n d4, .int .i64 (n : Int), .int .i64 c] w fun e w' => ∃ vf vw, e = .returned (.agg #[vf, .int .i64 (fin.held : Int), vw]) ∧ ListAt w' vf fin.fields ∧ ListAt w' vw fin.ws ∧ Below w.heap.size w w' := by
  have hmk := run_make_row' (P := Try.prog) 22 4 (.bool false) 1 Try.underlying22 info4 rfl .i64 .i64 (n + 1) (by omega) (by omega)
  have hmk2 : ∀ w, (Instr.makeSlice 22 (.int .i64 ((n : Int) + 1)) (.int .i64 ((n : Int) + 1))).run Try.prog w = _ := hmk
  have HE := hide hE
  have HGo := hide hgo
  clear hE hgo
  go_enter Try.func21, Try.ntmps21
  go_upto_region 4 with fail
  obtain ⟨wC, hwC⟩ : ∃ wC, wC = ((w.alloc (.cells #[nilS, .int .i64 0, nilS] 45)).alloc (.cells #[nilS, .int .i64 0, nilS] 45)).alloc (.cells (madeCells #[.bool false] (n + 1)) 4) := ⟨_, rfl⟩
  have s1 : (w.alloc (.cells #[nilS, .int .i64 0, nilS] 45)).heap.size = w.heap.size + 1 := by simp
  have s2 : ((w.alloc (.cells #[nilS, .int .i64 0, nilS] 45)).alloc (.cells #[nilS, .int .i64 0, nilS] 45)).heap.size = w.heap.size + 1 + 1 := by simp
  have sC : wC.heap.size = w.heap.size + 3 := by rw [hwC]; simp
  have hbC : Below w.heap.size w wC := by rw [hwC]; exact (((Below.refl _ _).alloc (Nat.le_refl _) _).alloc (by rw [s1]; omega) _).alloc (by rw [s2]; omega) _
  have resC : wC.rowIs w.heap.size 45 3 (rCells nilS (.int .i64 0) nilS) := by rw [hwC]; exact ((row3 w 45 _ _ _).alloc _).alloc _
  have rC : wC.rowIs (w.heap.size + 1) 45 3 (rCells nilS (.int .i64 0) nilS) := by
    have := row3 (w.alloc (.cells #[nilS, .int .i64 0, nilS] 45)) 45 nilS (.int .i64 0) nilS
    rw [s1] at this
    rw [hwC]; exact this.alloc _
  have eC : wC.rowIs (w.heap.size + 1 + 1) 4 (n + 1) (fun _ => .bool false) := by
    have := World.rowIs_made ((w.alloc (.cells #[nilS, .int .i64 0, nilS] 45)).alloc (.cells #[nilS, .int .i64 0, nilS] 45)) (.bool false) (n + 1) 4
    rw [s2] at this
    rw [hwC]; exact this
  rw [← hwC]
  obtain ⟨EB, hEB⟩ : ∃ EB, EB = w.heap.size + 1 + 1 := ⟨_, rfl⟩
  obtain ⟨RB, hRB⟩ : ∃ RB, RB = w.heap.size + 1 := ⟨_, rfl⟩
  obtain ⟨B0, hB0⟩ : ∃ B0, B0 = w.heap.size := ⟨_, rfl⟩
  rw [← hEB] at eC
  rw [← hRB] at rC
  rw [← hB0] at resC
  rw [← hEB, ← hRB, ← hB0]
  have HB0 := hide hB0
  have HRB := hide hRB
  have HEB := hide hEB
  have SC := hide sC
  have hgr := Goes.grows (N := 4096) (fun x => Nat.le_trans heldList_length hN) HGo.out
  have HG1 : Hid (fin.fields.length ≤ 33566720) := by have := hgr.1; simp [startSt] at this; show _ ≤ _; omega
  have HG2 : Hid (fin.ws.length ≤ 33566720) := by have := hgr.2.1; simp [startSt] at this; show _ ≤ _; omega
  have HG3 : Hid (fin.held ≤ 137489285120) := by have := hgr.2.2; simp [startSt] at this; show _ ≤ _; omega
  have hEC := HE.out.below hbC
  have m0 := hEC.row.cell (show 0 < 6 by omega)
  have m4 := hEC.row.cell (show 4 < 6 by omega)
  have m5 := hEC.row.cell (show 5 < 6 by omega)
  simp only [mCells] at m0 m4 m5
  have HEC := hide hEC
  have HrC := hide rC
  have HeC := hide eC
  have HresC := hide resC
  clear hwC s1 s2 hEB hRB hB0 hmk hmk2 hgr hEC sC rC resC
  by_cases c1 : (first m n : Int) ≤ c
  · as_aux_lemma =>
    obtain ⟨d, hd⟩ : ∃ d : Nat, c = (first m n : Int) + d := ⟨(c - first m n).toNat, by omega⟩
    have hdn : d < n := by omega
    have q5 := HEC.out.model.rootAt d hdn
    obtain ⟨sa, sc, hsv, _⟩ := (HE.out.model.roots d hdn).row
    rw [hsv] at q5
    have hcl : classList (first m n) (heldList m par n fr) (rootsTo m par n (first m n)) c = rootsTo m par n (first m n) d := by
      unfold classList
      rw [if_pos c1, hd, show ((first m n : Int) + d - first m n).toNat = d by omega]
    have HSet : Hid (ListAt w (.slice sa (rootsTo m par n (first m n) d).length sc) (classList (first m n) (heldList m par n fr) (rootsTo m par n (first m n)) c)) := by rw [hcl]; show ListAt _ _ _; rw [← hsv]; exact HE.out.model.roots d hdn
    have HSl : Hid (∀ y, y ∈ classList (first m n) (heldList m par n fr) (rootsTo m par n (first m n)) c → y < first m n) := by rw [hcl]; exact fun y hy => rootsTo_lt hy
    have qe := HeC.out.cell (show d < n + 1 by omega)
    have ze := HeC.out.frozen d
    have HD := hide hd
    obtain ⟨sl, hsl⟩ : ∃ sl, sl = (rootsTo m par n (first m n) d).length := ⟨_, rfl⟩
    rw [← hsl] at q5 HSet
    have di0 : (0 : Int) ≤ (d : Int) := by omega
    have di1 : (d : Int) < (n : Int) := by omega
    have sub1 : c - (first m n : Int) = (d : Int) := by omega
    have HSUB := hide sub1
    subst hd
    clear hsl hsv hcl eC sub1
    go_upto_region 5 with fail
    go_quiet (fail)
    go_upto_region 9 with fail
    obtain ⟨wD, hwD⟩ : ∃ wD, wD = (wC.drewN nq).setCell ⟨EB, d, none⟩ (.bool true) := ⟨_, rfl⟩
    rw [← hwD]
    have hEB0 := HEB.out
    have hRB0 := HRB.out
    have hB00 := HB0.out
    have hSC0 := SC.out
    have hbD : Below w.heap.size w wD := by rw [hwD]; exact (below_drewN hbC nq).setCell (by show _ ≤ EB; omega) _
    have hr0 : (wC.drewN nq).rowIs RB 45 3 (rCells nilS (.int .i64 0) nilS) := HrC.out.of_block rfl
    have hs0 : (wC.drewN nq).rowIs B0 45 3 (rCells nilS (.int .i64 0) nilS) := HresC.out.of_block rfl
    have he0 : (wC.drewN nq).rowIs EB 4 (n + 1) (fun _ => .bool false) := HeC.out.of_block rfl
    have hrD : wD.rowIs RB 45 3 (rCells nilS (.int .i64 0) nilS) := by rw [hwD]; exact hr0.setOther (by show RB ≠ EB; omega) _
    have HRes : Hid (wD.rowIs B0 45 3 (rCells nilS (.int .i64 0) nilS)) := by rw [hwD]; exact hs0.setOther (by show B0 ≠ EB; omega) _
    have heD : wD.rowIs EB 4 (n + 1) (fun j => if j = d then .bool true else .bool false) := by rw [hwD]; exact he0.set d _
    have sD : wD.heap.size = wC.heap.size := by rw [hwD]; simp [World.setCell]
    have HBef : Hid (Before w.heap.size wD n RB EB nilS nilS (startSt (first m n) ((first m n : Int) + d))) :=
      before_start ⟨rfl, rfl, rfl⟩ (by omega) (by omega) (by omega) (by omega) hrD (World.rowIs.congr heD (fun j hj => by
        show (if j = d then Value.bool true else Value.bool false) = Value.bool (decide ((first m n : Int) + d = (first m n : Int) + j))
        by_cases e : j = d
        · rw [if_pos e, e, decide_eq_true rfl]
        · rw [if_neg e, decide_eq_false (by omega)]))
    clear hwD hEB0 hRB0 hB00 hSC0 hr0 hs0 he0 hrD heD sD q5 qe ze
    go_wp2_with fail
    refine (visit_any w MB n m par ky fg fr ao al co cl MF MH MR HV RV b3 B3 D3 b4 B4 D4 d3 d4 HE.out hn hN hfr k wD (.slice sa sl sc) _ _ fin RB EB nilS nilS HGo.out HG1.out HG2.out HG3.out hk hbD HBef.out HSet.out HSl.out).mono ?_
    rintro e w2 ⟨⟨u, rfl⟩, ⟨eo, U0, U1, hM, hE2⟩⟩
    obtain ⟨ua, uc, hu0, _⟩ := hM.o0.listAt.row
    obtain ⟨xa, xc, hu1, _⟩ := hM.o1.listAt.row
    subst hu0 hu1
    have r0 := hM.r.cell (show 0 < 3 by omega)
    have r1 := hM.r.cell (show 1 < 3 by omega)
    have r2 := hM.r.cell (show 2 < 3 by omega)
    simp only [rCells] at r0 r1 r2
    have hB0 := HB0.out
    have hRB := HRB.out
    have hEB := HEB.out
    have hS5 := HRes.out.of_block (hM.ch B0 HRes.out.lt (by omega) (by omega) (fun e => (by cases e)) (fun e => (by cases e)))
    have s0 := hS5.cell (show 0 < 3 by omega)
    have s1 := hS5.cell (show 1 < 3 by omega)
    have s2 := hS5.cell (show 2 < 3 by omega)
    simp only [rCells] at s0 s1 s2
    have z0 := hS5.frozen 0
    have z1 := hS5.frozen 1
    have z2 := hS5.frozen 2
    have nB : RB ≠ B0 := by omega
    have HM := hide hM
    have hb2 : Below w.heap.size w w2 := hbD.trans hM.below
    have HB2 := hide hb2
    have HS5 := hide hS5
    clear hM hE2 hS5 hb2 hB0 hRB hEB
    go_wp2
    obtain ⟨wz, hwz⟩ : ∃ wz, wz = ((w2.setCell ⟨B0, 0, none⟩ (.slice ua fin.fields.length uc)).setCell ⟨B0, 1, none⟩ (.int .i64 (fin.held : Int))).setCell ⟨B0, 2, none⟩ (.slice xa fin.ws.length xc) := ⟨_, rfl⟩
    rw [← hwz]
    have hrow := ((HS5.out.set 0 (.slice ua fin.fields.length uc)).set 1 (.int .i64 (fin.held : Int))).set 2 (.slice xa fin.ws.length xc)
    rw [← hwz] at hrow
    have q0 : wz.cell? ⟨B0, 0, none⟩ = some (.slice ua fin.fields.length uc) := hrow.cell (show 0 < 3 by omega)
    have q1 : wz.cell? ⟨B0, 1, none⟩ = some (.int .i64 (fin.held : Int)) := hrow.cell (show 1 < 3 by omega)
    have q2 : wz.cell? ⟨B0, 2, none⟩ = some (.slice xa fin.ws.length xc) := hrow.cell (show 2 < 3 by omega)
    have hz : ∀ g, g ≠ B0 → wz.heap[g]? = w2.heap[g]? := fun g hg => by
      rw [hwz]
      exact (Below.heap_setCell _ _ _ _ hg).trans ((Below.heap_setCell _ _ _ _ hg).trans (Below.heap_setCell _ _ _ _ hg))
    refine bodyPost_ret (v := .agg #[.slice ua fin.fields.length uc, .int .i64 (fin.held : Int), .slice xa fin.ws.length xc]) (by simp [results, Try.results21, go_sem, q0, q1, q2]) rfl ?_
    have hB0 := HB0.out
    have hne : ∀ g, (Value.ownBlock (.slice ua fin.fields.length uc) = some g ∨ Value.ownBlock (.slice xa fin.ws.length xc) = some g) → g ≠ B0 := fun g e => by
      have hlt := HRes.out.lt
      rcases e with e | e
      · rcases (HM.out.n0 g e).2.2 with e2 | e2
        · cases e2
        · omega
      · rcases (HM.out.n1 g e).2.2 with e2 | e2
        · cases e2
        · omega
    refine ⟨_, _, rfl, HM.out.o0.listAt.kept (fun g e => hz g (hne g (.inl e))), HM.out.o1.listAt.kept (fun g e => hz g (hne g (.inr e))), ?_⟩
    rw [hwz]
    exact ((HB2.out.setCell (by show _ ≤ B0; omega) _).setCell (by show _ ≤ B0; omega) _).setCell (by show _ ≤ B0; omega) _
  · by_cases c0 : 0 ≤ c
    · as_aux_lemma =>
      obtain ⟨x, hx⟩ : ∃ x : Nat, c = (x : Int) := ⟨c.toNat, by omega⟩
      have hxN : x < first m n := by omega
      have q5 := HEC.out.model.heldAt x hxN
      obtain ⟨sa, sc, hsv, _⟩ := (HE.out.model.held x hxN).row
      rw [hsv] at q5
      have hcl : classList (first m n) (heldList m par n fr) (rootsTo m par n (first m n)) c = heldList m par n fr x := by
        unfold classList
        rw [if_neg c1, if_pos c0, hx]; rfl
      have HSet : Hid (ListAt w (.slice sa (heldList m par n fr x).length sc) (classList (first m n) (heldList m par n fr) (rootsTo m par n (first m n)) c)) := by rw [hcl]; show ListAt _ _ _; rw [← hsv]; exact HE.out.model.held x hxN
      have HSl : Hid (∀ y, y ∈ classList (first m n) (heldList m par n fr) (rootsTo m par n (first m n)) c → y < first m n) := by rw [hcl]; exact fun y hy => heldList_lt hy
      obtain ⟨sl, hsl⟩ : ∃ sl, sl = (heldList m par n fr x).length := ⟨_, rfl⟩
      rw [← hsl] at q5 HSet
      have HBef : Hid (Before w.heap.size wC n RB EB nilS nilS (startSt (first m n) c)) :=
        before_start ⟨rfl, rfl, rfl⟩ (by have := SC.out; omega) (by have := HRB.out; omega) (by have := HEB.out; omega) (by have := HRB.out; have := HEB.out; omega) HrC.out (HeC.out.congr (fun d hd => by
          show Value.bool false = Value.bool (decide (c = (first m n : Int) + d))
          rw [decide_eq_false (by omega)]))
      have HRes := HresC
      have hbD := hbC
      subst hx
      clear hsl hsv hcl eC
      go_wp2_with fail
      refine (visit_any w MB n m par ky fg fr ao al co cl MF MH MR HV RV b3 B3 D3 b4 B4 D4 d3 d4 HE.out hn hN hfr k wC (.slice sa sl sc) _ _ fin RB EB nilS nilS HGo.out HG1.out HG2.out HG3.out hk hbD HBef.out HSet.out HSl.out).mono ?_
      rintro e w2 ⟨⟨u, rfl⟩, ⟨eo, U0, U1, hM, hE2⟩⟩
      obtain ⟨ua, uc, hu0, _⟩ := hM.o0.listAt.row
      obtain ⟨xa, xc, hu1, _⟩ := hM.o1.listAt.row
      subst hu0 hu1
      have r0 := hM.r.cell (show 0 < 3 by omega)
      have r1 := hM.r.cell (show 1 < 3 by omega)
      have r2 := hM.r.cell (show 2 < 3 by omega)
      simp only [rCells] at r0 r1 r2
      have hB0 := HB0.out
      have hRB := HRB.out
      have hEB := HEB.out
      have hS5 := HRes.out.of_block (hM.ch B0 HRes.out.lt (by omega) (by omega) (fun e => (by cases e)) (fun e => (by cases e)))
      have s0 := hS5.cell (show 0 < 3 by omega)
      have s1 := hS5.cell (show 1 < 3 by omega)
      have s2 := hS5.cell (show 2 < 3 by omega)
      simp only [rCells] at s0 s1 s2
      have z0 := hS5.frozen 0
      have z1 := hS5.frozen 1
      have z2 := hS5.frozen 2
      have nB : RB ≠ B0 := by omega
      have HM := hide hM
      have hb2 : Below w.heap.size w w2 := hbD.trans hM.below
      have HB2 := hide hb2
      have HS5 := hide hS5
      clear hM hE2 hS5 hb2 hB0 hRB hEB
      go_wp2
      obtain ⟨wz, hwz⟩ : ∃ wz, wz = ((w2.setCell ⟨B0, 0, none⟩ (.slice ua fin.fields.length uc)).setCell ⟨B0, 1, none⟩ (.int .i64 (fin.held : Int))).setCell ⟨B0, 2, none⟩ (.slice xa fin.ws.length xc) := ⟨_, rfl⟩
      rw [← hwz]
      have hrow := ((HS5.out.set 0 (.slice ua fin.fields.length uc)).set 1 (.int .i64 (fin.held : Int))).set 2 (.slice xa fin.ws.length xc)
      rw [← hwz] at hrow
      have q0 : wz.cell? ⟨B0, 0, none⟩ = some (.slice ua fin.fields.length uc) := hrow.cell (show 0 < 3 by omega)
      have q1 : wz.cell? ⟨B0, 1, none⟩ = some (.int .i64 (fin.held : Int)) := hrow.cell (show 1 < 3 by omega)
      have q2 : wz.cell? ⟨B0, 2, none⟩ = some (.slice xa fin.ws.length xc) := hrow.cell (show 2 < 3 by omega)
      have hz : ∀ g, g ≠ B0 → wz.heap[g]? = w2.heap[g]? := fun g hg => by
        rw [hwz]
        exact (Below.heap_setCell _ _ _ _ hg).trans ((Below.heap_setCell _ _ _ _ hg).trans (Below.heap_setCell _ _ _ _ hg))
      refine bodyPost_ret (v := .agg #[.slice ua fin.fields.length uc, .int .i64 (fin.held : Int), .slice xa fin.ws.length xc]) (by simp [results, Try.results21, go_sem, q0, q1, q2]) rfl ?_
      have hB0 := HB0.out
      have hne : ∀ g, (Value.ownBlock (.slice ua fin.fields.length uc) = some g ∨ Value.ownBlock (.slice xa fin.ws.length xc) = some g) → g ≠ B0 := fun g e => by
        have hlt := HRes.out.lt
        rcases e with e | e
        · rcases (HM.out.n0 g e).2.2 with e2 | e2
          · cases e2
          · omega
        · rcases (HM.out.n1 g e).2.2 with e2 | e2
          · cases e2
          · omega
      refine ⟨_, _, rfl, HM.out.o0.listAt.kept (fun g e => hz g (hne g (.inl e))), HM.out.o1.listAt.kept (fun g e => hz g (hne g (.inr e))), ?_⟩
      rw [hwz]
      exact ((HB2.out.setCell (by show _ ≤ B0; omega) _).setCell (by show _ ≤ B0; omega) _).setCell (by show _ ≤ B0; omega) _
    · as_aux_lemma =>
      have hcl : classList (first m n) (heldList m par n fr) (rootsTo m par n (first m n)) c = [] := by
        unfold classList
        rw [if_neg c1, if_neg c0]
      have HSet : Hid (ListAt w nilS (classList (first m n) (heldList m par n fr) (rootsTo m par n (first m n)) c)) := by rw [hcl]; exact .inl ⟨rfl, rfl⟩
      have HSl : Hid (∀ y, y ∈ classList (first m n) (heldList m par n fr) (rootsTo m par n (first m n)) c → y < first m n) := by rw [hcl]; exact fun y hy => (by cases hy)
      have HBef : Hid (Before w.heap.size wC n RB EB nilS nilS (startSt (first m n) c)) :=
        before_start ⟨rfl, rfl, rfl⟩ (by have := SC.out; omega) (by have := HRB.out; omega) (by have := HEB.out; omega) (by have := HRB.out; have := HEB.out; omega) HrC.out (HeC.out.congr (fun d hd => by
          show Value.bool false = Value.bool (decide (c = (first m n : Int) + d))
          rw [decide_eq_false (by omega)]))
      have HRes := HresC
      have hbD := hbC
      clear hcl eC
      go_wp2_with fail
      refine (visit_any w MB n m par ky fg fr ao al co cl MF MH MR HV RV b3 B3 D3 b4 B4 D4 d3 d4 HE.out hn hN hfr k wC nilS _ _ fin RB EB nilS nilS HGo.out HG1.out HG2.out HG3.out hk hbD HBef.out HSet.out HSl.out).mono ?_
      rintro e w2 ⟨⟨u, rfl⟩, ⟨eo, U0, U1, hM, hE2⟩⟩
      obtain ⟨ua, uc, hu0, _⟩ := hM.o0.listAt.row
      obtain ⟨xa, xc, hu1, _⟩ := hM.o1.listAt.row
      subst hu0 hu1
      have r0 := hM.r.cell (show 0 < 3 by omega)
      have r1 := hM.r.cell (show 1 < 3 by omega)
      have r2 := hM.r.cell (show 2 < 3 by omega)
      simp only [rCells] at r0 r1 r2
      have hB0 := HB0.out
      have hRB := HRB.out
      have hEB := HEB.out
      have hS5 := HRes.out.of_block (hM.ch B0 HRes.out.lt (by omega) (by omega) (fun e => (by cases e)) (fun e => (by cases e)))
      have s0 := hS5.cell (show 0 < 3 by omega)
      have s1 := hS5.cell (show 1 < 3 by omega)
      have s2 := hS5.cell (show 2 < 3 by omega)
      simp only [rCells] at s0 s1 s2
      have z0 := hS5.frozen 0
      have z1 := hS5.frozen 1
      have z2 := hS5.frozen 2
      have nB : RB ≠ B0 := by omega
      have HM := hide hM
      have hb2 : Below w.heap.size w w2 := hbD.trans hM.below
      have HB2 := hide hb2
      have HS5 := hide hS5
      clear hM hE2 hS5 hb2 hB0 hRB hEB
      go_wp2
      obtain ⟨wz, hwz⟩ : ∃ wz, wz = ((w2.setCell ⟨B0, 0, none⟩ (.slice ua fin.fields.length uc)).setCell ⟨B0, 1, none⟩ (.int .i64 (fin.held : Int))).setCell ⟨B0, 2, none⟩ (.slice xa fin.ws.length xc) := ⟨_, rfl⟩
      rw [← hwz]
      have hrow := ((HS5.out.set 0 (.slice ua fin.fields.length uc)).set 1 (.int .i64 (fin.held : Int))).set 2 (.slice xa fin.ws.length xc)
      rw [← hwz] at hrow
      have q0 : wz.cell? ⟨B0, 0, none⟩ = some (.slice ua fin.fields.length uc) := hrow.cell (show 0 < 3 by omega)
      have q1 : wz.cell? ⟨B0, 1, none⟩ = some (.int .i64 (fin.held : Int)) := hrow.cell (show 1 < 3 by omega)
      have q2 : wz.cell? ⟨B0, 2, none⟩ = some (.slice xa fin.ws.length xc) := hrow.cell (show 2 < 3 by omega)
      have hz : ∀ g, g ≠ B0 → wz.heap[g]? = w2.heap[g]? := fun g hg => by
        rw [hwz]
        exact (Below.heap_setCell _ _ _ _ hg).trans ((Below.heap_setCell _ _ _ _ hg).trans (Below.heap_setCell _ _ _ _ hg))
      refine bodyPost_ret (v := .agg #[.slice ua fin.fields.length uc, .int .i64 (fin.held : Int), .slice xa fin.ws.length xc]) (by simp [results, Try.results21, go_sem, q0, q1, q2]) rfl ?_
      have hB0 := HB0.out
      have hne : ∀ g, (Value.ownBlock (.slice ua fin.fields.length uc) = some g ∨ Value.ownBlock (.slice xa fin.ws.length xc) = some g) → g ≠ B0 := fun g e => by
        have hlt := HRes.out.lt
        rcases e with e | e
        · rcases (HM.out.n0 g e).2.2 with e2 | e2
          · cases e2
          · omega
        · rcases (HM.out.n1 g e).2.2 with e2 | e2
          · cases e2
          · omega
      refine ⟨_, _, rfl, HM.out.o0.listAt.kept (fun g e => hz g (hne g (.inl e))), HM.out.o1.listAt.kept (fun g e => hz g (hne g (.inr e))), ?_⟩
      rw [hwz]
      exact ((HB2.out.setCell (by show _ ≤ B0; omega) _).setCell (by show _ ≤ B0; omega) _).setCell (by show _ ≤ B0; omega) _

end Go.Proofs.Qxb6602394a.T
