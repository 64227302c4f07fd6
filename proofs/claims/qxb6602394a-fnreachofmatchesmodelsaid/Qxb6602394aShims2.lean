/-
  ZZB1ReachOf and ZZB1ReachOfAfter.
-/
import Derived.Test.Qxb6602394aShims
namespace Go.Proofs.Qxb6602394a.T
open Go.RowKit
set_option linter.unusedVariables false

/-- A counter's memory behind the tree: its two maps, and itself. -/
structure CounterAt (w2 w3 : World) (T : Nat) (G : Int → Option Value) (cnt : Nat) : Prop where
  below : Below w2.heap.size w2 w3
  c0 : w3.cell? ⟨w2.heap.size + 1 + 1, 0, none⟩ = some (.pointer (some ⟨T, 0, none⟩))
  c1 : w3.cell? ⟨w2.heap.size + 1 + 1, 1, none⟩ = some (.map (some w2.heap.size))
  map : MapIs Try.prog w3 3 w2.heap.size cnt (byI64 G)
  size : w2.heap.size + 3 ≤ w3.heap.size

theorem CounterAt.start (w2 : World) (T : Nat) : CounterAt w2 (((w2.alloc (.map #[] 0)).alloc (.map #[] 0)).alloc (.cells #[.pointer (some ⟨T, 0, none⟩), .map (some w2.heap.size), .map (some (w2.heap.size + 1))] 72)) T (fun _ => none) 0 := by
  have s1 : ((w2.alloc (.map #[] 0)).alloc (.map #[] 0)).heap.size = w2.heap.size + 2 := by simp
  have hb : Below w2.heap.size w2 (((w2.alloc (.map #[] 0)).alloc (.map #[] 0)).alloc (.cells #[.pointer (some ⟨T, 0, none⟩), .map (some w2.heap.size), .map (some (w2.heap.size + 1))] 72)) :=
    (((Below.refl _ _).alloc (Nat.le_refl _) _).alloc (by simp) _).alloc (by rw [s1]; omega) _
  have hr := World.rowIs_alloc ((w2.alloc (.map #[] 0)).alloc (.map #[] 0)) #[.pointer (some ⟨T, 0, none⟩), .map (some w2.heap.size), .map (some (w2.heap.size + 1))] 72 (rCells (.pointer (some ⟨T, 0, none⟩)) (.map (some w2.heap.size)) (.map (some (w2.heap.size + 1)))) (fun i hi => by
      have : i < 3 := by simpa using hi
      match i, this with
      | 0, _ => rfl
      | 1, _ => rfl
      | 2, _ => rfl)
  rw [s1] at hr
  refine ⟨hb, hr.cell (show 0 < 3 by omega), hr.cell (show 1 < 3 by omega), ?_, by rw [show ∀ (X : World) (o : Obj), (X.alloc o).heap.size = X.heap.size + 1 from fun X o => by simp, s1]; omega⟩
  have h0 := (MapIs.made Try.prog w2 3).congr (F' := byI64 fun _ => none) (fun kl _ => by unfold byI64; split <;> rfl)
  refine h0.kept ?_
  refine (Below.heap_alloc _ _ _ (by rw [s1]; omega)).trans (Below.heap_alloc _ _ _ (by simp))

theorem CounterAt.after {w2 w3 w4 : World} {T : Nat} {G G' : Int → Option Value} {cnt cnt' : Nat} (h : CounterAt w2 w3 T G cnt) (hb : Below w2.heap.size w3 w4) (hold : ∀ g, g ≠ w2.heap.size → g < w3.heap.size → w4.heap[g]? = w3.heap[g]?) (hM : MapIs Try.prog w4 3 w2.heap.size cnt' (byI64 G')) : CounterAt w2 w4 T G' cnt' := by
  have hs := h.size
  have hs4 := hb.size
  have hC : w4.heap[w2.heap.size + 2]? = w3.heap[w2.heap.size + 2]? := hold _ (by omega) (by omega)
  exact ⟨h.below.trans hb, (World.cell?_of_block (w := w3) hC).trans h.c0, (World.cell?_of_block (w := w3) hC).trans h.c1, hM, by omega⟩

set_option maxRecDepth 100000 in
set_option maxHeartbeats 1600000 in
theorem reachShim_any (a0 : Option Addr) (n d0 : Nat) (a1 : Option Addr) (d1 : Nat) (a2 : Option Addr) (d2 : Nat) (A2 : Nat → Option Addr) (m C2 : Nat → Nat) 
    (a3 : Option Addr) (d3 : Nat) (A3 : Nat → Option Addr) (C3 : Nat → Nat) (a4 : Option Addr) (d4 : Nat) (A4 : Nat → Option Addr) (C4 : Nat → Nat)
    (fb : Nat → Bool) (nm : Nat → ByteArray) (par : Nat → Nat → Int) (ky fg : Nat → Nat → ByteArray) (c : Int) (w : World) (hn : n ≤ 4096) (hm : ∀ i, i < n → m i ≤ 1048576) (hall : first m n ≤ 4096) (hs : ∀ i, i < n → (nm i).size ≤ maxLen) (hpar : ∀ i j, i < n → j < m i → par i j < (m i : Int)) (hfs : ∀ i j, i < n → j < m i → (fg i j).size ≤ maxLen)
    (h0 : RowAt w a0 n (fun i => .bool (fb i))) (h1 : RowAt w a1 n (fun i => .string (nm i))) (h2 : RowsAt w a2 n A2 m C2 (fun i j => .int .i64 (par i j))) (h3 : RowsAt w a3 n A3 m C3 (fun i j => .string (ky i j))) (h4 : RowsAt w a4 n A4 m C4 (fun i j => .string (fg i j)))
    (hc : c < (first m n : Int) + n) (hcl : -9223372036854775808 ≤ c) (fin : St) (k : Nat) (hgo : Reaches n fb nm m par ky fg c fin k) (hk : k ≤ 33566720) :
    Calls Try.prog 20 #[.slice a0 n d0, .slice a1 n d1, .slice a2 n d2, .slice a3 n d3, .slice a4 n d4, .int .i64 c] w fun e w' => ∃ vf vw, e = .returned (.tuple #[vf, .int .i64 (fin.held : Int), vw]) ∧ ListAt w' vf fin.fields ∧ ListAt w' vw fin.ws ∧ Below w.heap.size w w' := by
  have hmm := @run_makeMap Try.prog
  go_enter Try.func20, Try.ntmps20
  go_wp2_with fail
  refine (defs_any a0 n d0 a1 d1 a2 d2 A2 m C2 a3 d3 A3 C3 a4 d4 A4 C4 fb nm par ky fg w hn hm h0 h1 h2 h3 h4).mono ?_
  rintro e w1 ⟨rfl, ⟨D, S, hD⟩, hb1⟩
  clear h0 h1 h2 h3 h4
  go_wp2_with fail
  refine (tree_any _ n D S fb nm m par ky fg w1 hn hall hs hpar hfs hD).mono ?_
  rintro e w2 ⟨rfl, hT⟩
  obtain ⟨K, Sp, FB, H, HV, RV, hP, hb2⟩ := hT.treeIn
  clear hT hD
  have HP := hide hP
  have HGo := hide hgo
  clear hP hgo
  go_upto_region 2 with fail
  obtain ⟨w3, hw3⟩ : ∃ w3, w3 = ((w2.alloc (.map #[] 0)).alloc (.map #[] 0)).alloc (.cells #[.pointer (some ⟨w1.heap.size + 1, 0, none⟩), .map (some w2.heap.size), .map (some (w2.heap.size + 1))] 72) := ⟨_, rfl⟩
  have hC := CounterAt.start w2 (w1.heap.size + 1)
  rw [← hw3] at hC
  rw [← hw3]
  obtain ⟨CB, hCB⟩ : ∃ CB, CB = w2.heap.size + 1 + 1 := ⟨_, rfl⟩
  obtain ⟨RM, hRM⟩ : ∃ RM, RM = w2.heap.size := ⟨_, rfl⟩
  have c0 := hC.c0
  have c1 := hC.c1
  have cm := hC.map
  rw [← hCB] at c0 c1
  rw [← hRM] at c1 cm
  rw [← hCB, ← hRM]
  have hb3 := hC.below
  have HT3 := hide (HP.out.below hb3)
  have HM3 := hide cm
  have HRM := hide hRM
  clear hw3 hC cm hCB hRM hmm
  go_wp2_with fail
  refine (reach_miss w3 CB (w1.heap.size + 1) _ n (first m n) K Sp FB H w1.heap.size (w1.heap.size + 1 + 1) RM _ _ _ HV RV _ _ c hc hcl hall hn spreadOf_lt (fun x y hy => heldList_lt hy) class_lt (fun x => Nat.le_trans heldList_length hall) fin k HGo.out hk c0 c1 HT3.out (fun _ => none) 0 HM3.out (by omega) rfl).mono ?_
  rintro e w4 ⟨vf, vw, rfl, hvf, hvw, _, hb4, hold, _, _⟩
  obtain ⟨fa, fc, rfl, _⟩ := hvf.row
  obtain ⟨ga, gc, rfl, _⟩ := hvw.row
  have hbw : Below w.heap.size w w4 := by
    have e := HRM.out
    have h12 : Below w.heap.size w w2 := hb1.trans (hb2.mono hb1.size)
    have h13 : Below w.heap.size w w3 := h12.trans (hb3.mono h12.size)
    exact h13.trans (hb4.mono (by rw [e]; exact h12.size))
  have HF := hide hvf
  have HW := hide hvw
  clear hvf hvw hb4 hold c0 c1 HT3 HM3
  go_upto_region 3 with fail
  obtain ⟨w5, hw5⟩ : ∃ w5, w5 = w4.alloc (.cells #[.slice fa fin.fields.length fc, .int .i64 (fin.held : Int), .slice ga fin.ws.length gc] 74) := ⟨_, rfl⟩
  have hb5 : Below w4.heap.size w4 w5 := by rw [hw5]; exact (Below.refl _ _).alloc (Nat.le_refl _) _
  have q0 : w5.cell? ⟨w4.heap.size, 0, none⟩ = some (.slice fa fin.fields.length fc) := by rw [hw5]; simp
  have q1 : w5.cell? ⟨w4.heap.size, 1, none⟩ = some (.int .i64 (fin.held : Int)) := by rw [hw5]; simp
  have q2 : w5.cell? ⟨w4.heap.size, 2, none⟩ = some (.slice ga fin.ws.length gc) := by rw [hw5]; simp
  rw [← hw5]
  clear hw5
  go_quiet (fail)
  go_wp2
  go_ret3
  have hb6 := below_drewN hb5 nq
  exact ⟨_, _, rfl, HF.out.below hb6, HW.out.below hb6, hbw.trans (hb6.mono hbw.size)⟩

set_option maxRecDepth 100000 in
set_option maxHeartbeats 1600000 in
theorem afterShim_any (a0 : Option Addr) (n d0 : Nat) (a1 : Option Addr) (d1 : Nat) (a2 : Option Addr) (d2 : Nat) (A2 : Nat → Option Addr) (m C2 : Nat → Nat) 
    (a3 : Option Addr) (d3 : Nat) (A3 : Nat → Option Addr) (C3 : Nat → Nat) (a4 : Option Addr) (d4 : Nat) (A4 : Nat → Option Addr) (C4 : Nat → Nat)
    (fb : Nat → Bool) (nm : Nat → ByteArray) (par : Nat → Nat → Int) (ky fg : Nat → Nat → ByteArray) (ca c : Int) (w : World) (hn : n ≤ 4096) (hm : ∀ i, i < n → m i ≤ 1048576) (hall : first m n ≤ 4096) (hs : ∀ i, i < n → (nm i).size ≤ maxLen) (hpar : ∀ i j, i < n → j < m i → par i j < (m i : Int)) (hfs : ∀ i j, i < n → j < m i → (fg i j).size ≤ maxLen)
    (h0 : RowAt w a0 n (fun i => .bool (fb i))) (h1 : RowAt w a1 n (fun i => .string (nm i))) (h2 : RowsAt w a2 n A2 m C2 (fun i j => .int .i64 (par i j))) (h3 : RowsAt w a3 n A3 m C3 (fun i j => .string (ky i j))) (h4 : RowsAt w a4 n A4 m C4 (fun i j => .string (fg i j)))
    (hca : ca < (first m n : Int) + n) (hcal : -9223372036854775808 ≤ ca) (hc : c < (first m n : Int) + n) (hcl : -9223372036854775808 ≤ c) (fina : St) (ka : Nat) (hgoa : Reaches n fb nm m par ky fg ca fina ka) (hka : ka ≤ 33566720) (fin : St) (k : Nat) (hgo : Reaches n fb nm m par ky fg c fin k) (hk : k ≤ 33566720) :
    Calls Try.prog 23 #[.slice a0 n d0, .slice a1 n d1, .slice a2 n d2, .slice a3 n d3, .slice a4 n d4, .int .i64 ca, .int .i64 c] w fun e w' => ∃ vf vw, e = .returned (.tuple #[vf, .int .i64 (fin.held : Int), vw]) ∧ ListAt w' vf fin.fields ∧ ListAt w' vw fin.ws ∧ Below w.heap.size w w' := by
  have hmm := @run_makeMap Try.prog
  go_enter Try.func23, Try.ntmps23
  go_wp2_with fail
  refine (defs_any a0 n d0 a1 d1 a2 d2 A2 m C2 a3 d3 A3 C3 a4 d4 A4 C4 fb nm par ky fg w hn hm h0 h1 h2 h3 h4).mono ?_
  rintro e w1 ⟨rfl, ⟨D, S, hD⟩, hb1⟩
  clear h0 h1 h2 h3 h4
  go_wp2_with fail
  refine (tree_any _ n D S fb nm m par ky fg w1 hn hall hs hpar hfs hD).mono ?_
  rintro e w2 ⟨rfl, hT⟩
  obtain ⟨K, Sp, FB, H, HV, RV, hP, hb2⟩ := hT.treeIn
  clear hT hD
  have HP := hide hP
  have HGo := hide hgo
  have HGoa := hide hgoa
  clear hP hgo hgoa
  go_upto_region 2 with fail
  obtain ⟨w3, hw3⟩ : ∃ w3, w3 = ((w2.alloc (.map #[] 0)).alloc (.map #[] 0)).alloc (.cells #[.pointer (some ⟨w1.heap.size + 1, 0, none⟩), .map (some w2.heap.size), .map (some (w2.heap.size + 1))] 72) := ⟨_, rfl⟩
  have hC := CounterAt.start w2 (w1.heap.size + 1)
  rw [← hw3] at hC
  rw [← hw3]
  obtain ⟨CB, hCB⟩ : ∃ CB, CB = w2.heap.size + 1 + 1 := ⟨_, rfl⟩
  obtain ⟨RM, hRM⟩ : ∃ RM, RM = w2.heap.size := ⟨_, rfl⟩
  have c0 := hC.c0
  have c1 := hC.c1
  have cm := hC.map
  rw [← hCB] at c0 c1
  rw [← hRM] at c1 cm
  rw [← hCB, ← hRM]
  have hb3 := hC.below
  have HT3 := hide (HP.out.below hb3)
  have HM3 := hide cm
  have HRM := hide hRM
  have HCB := hide hCB
  have HC := hide hC
  clear hw3 hC cm hCB hRM hmm
  go_wp2_with fail
  refine (reach_miss w3 CB (w1.heap.size + 1) _ n (first m n) K Sp FB H w1.heap.size (w1.heap.size + 1 + 1) RM _ _ _ HV RV _ _ ca hca hcal hall hn spreadOf_lt (fun x y hy => heldList_lt hy) class_lt (fun x => Nat.le_trans heldList_length hall) fina ka HGoa.out hka c0 c1 HT3.out (fun _ => none) 0 HM3.out (by omega) rfl).mono ?_
  rintro e w4 ⟨vf, vw, rfl, hvf, hvw, hM4, hb4, hold, of, ow⟩
  rw [HRM.out] at hb4 hold hM4
  have hC4 := HC.out.after hb4 hold hM4
  have hb4' := hC4.below
  clear c0 c1 HT3 HM3 hM4
  have c0 := hC4.c0
  have c1 := hC4.c1
  have cm := hC4.map
  rw [← HCB.out] at c0 c1
  rw [← HRM.out] at c1 cm
  have HT4 := hide (HP.out.below hb4')
  have HM4 := hide cm
  have h12 : Below w.heap.size w w2 := hb1.trans (hb2.mono hb1.size)
  have hw4 : Below w.heap.size w w4 := h12.trans (hb4'.mono h12.size)
  have HH12 := hide h12
  have HW4 := hide hw4
  obtain ⟨fa, fc, rfl, _⟩ := hvf.row
  obtain ⟨ga, gc, rfl, _⟩ := hvw.row
  have HF := hide hvf
  have HW := hide hvw
  clear hvf hvw of ow hold hb4 hC4 HC cm h12 hw4 hb1 hb2 hb3
  by_cases eab : ca = c
  · as_aux_lemma =>
    subst eab
    obtain ⟨efin, _⟩ := Goes.det HGoa.out HGo.out
    subst efin
    go_wp2_with fail
    refine (reach_hit w4 CB RM undef ca hcl (by omega) c1 _ _ HM4.out fa fina.fields.length fc (fina.held : Int) ga fina.ws.length gc (by simp)).mono ?_
    rintro e w5 ⟨rfl, hb5⟩
    clear c0 c1 HT4 HM4
    go_upto_region 4 with fail
    obtain ⟨w6, hw6⟩ : ∃ w6, w6 = w5.alloc (.cells #[.slice fa fina.fields.length fc, .int .i64 (fina.held : Int), .slice ga fina.ws.length gc] 74) := ⟨_, rfl⟩
    have hb6 : Below w5.heap.size w5 w6 := by rw [hw6]; exact (Below.refl _ _).alloc (Nat.le_refl _) _
    have q0 : w6.cell? ⟨w5.heap.size, 0, none⟩ = some (.slice fa fina.fields.length fc) := by rw [hw6]; simp
    have q1 : w6.cell? ⟨w5.heap.size, 1, none⟩ = some (.int .i64 (fina.held : Int)) := by rw [hw6]; simp
    have q2 : w6.cell? ⟨w5.heap.size, 2, none⟩ = some (.slice ga fina.ws.length gc) := by rw [hw6]; simp
    rw [← hw6]
    clear hw6
    go_quiet (fail)
    go_wp2
    go_ret3
    have hb7 := hb5.trans ((below_drewN hb6 nq).mono hb5.size)
    exact ⟨_, _, rfl, HF.out.below hb7, HW.out.below hb7, HW4.out.trans (hb7.mono HW4.out.size)⟩
  · as_aux_lemma =>
    go_wp2_with fail
    refine (reach_miss w4 CB (w1.heap.size + 1) _ n (first m n) K Sp FB H w1.heap.size (w1.heap.size + 1 + 1) RM _ _ _ HV RV _ _ c hc hcl hall hn spreadOf_lt (fun x y hy => heldList_lt hy) class_lt (fun x => Nat.le_trans heldList_length hall) fin k HGo.out hk c0 c1 HT4.out _ _ HM4.out (by omega) (by simp [Ne.symm eab])).mono ?_
    rintro e w5 ⟨vf, vw, rfl, hvf, hvw, _, hb5, hold, _, _⟩
    have hbw : Below w.heap.size w w5 := HW4.out.trans (hb5.mono (by rw [HRM.out]; exact HH12.out.size))
    obtain ⟨ja, jc, rfl, _⟩ := hvf.row
    obtain ⟨la, lc, rfl, _⟩ := hvw.row
    have HF2 := hide hvf
    have HW2 := hide hvw
    clear hvf hvw hb5 hold c0 c1 HT4 HM4
    go_upto_region 4 with fail
    obtain ⟨w6, hw6⟩ : ∃ w6, w6 = w5.alloc (.cells #[.slice ja fin.fields.length jc, .int .i64 (fin.held : Int), .slice la fin.ws.length lc] 74) := ⟨_, rfl⟩
    have hb6 : Below w5.heap.size w5 w6 := by rw [hw6]; exact (Below.refl _ _).alloc (Nat.le_refl _) _
    have q0 : w6.cell? ⟨w5.heap.size, 0, none⟩ = some (.slice ja fin.fields.length jc) := by rw [hw6]; simp
    have q1 : w6.cell? ⟨w5.heap.size, 1, none⟩ = some (.int .i64 (fin.held : Int)) := by rw [hw6]; simp
    have q2 : w6.cell? ⟨w5.heap.size, 2, none⟩ = some (.slice la fin.ws.length lc) := by rw [hw6]; simp
    rw [← hw6]
    clear hw6
    go_quiet (fail)
    go_wp2
    go_ret3
    have hb7 := below_drewN hb6 nq
    exact ⟨_, _, rfl, HF2.out.below hb7, HW2.out.below hb7, hbw.trans (hb7.mono hbw.size)⟩

end Go.Proofs.Qxb6602394a.T
