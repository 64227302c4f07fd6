/-
  ZZB1NewSelectionTree: the six parts of the tree.
-/
import Derived.Test.Qxb6602394aTree
import Derived.Test.Qxb6602394aModelBase
namespace Go.Proofs.Qxb6602394a.T
open Go.RowKit
set_option linter.unusedVariables false

structure PartsAt (w : World) (n K Sp FB H R F : Nat) (HV RV : Nat → Value) (fb : Nat → Bool) (nm : Nat → ByteArray) (m : Nat → Nat) (par : Nat → Nat → Int) (ky fg : Nat → Nat → ByteArray) : Prop where
  keys : ∀ x, x < first m n → w.cell? ⟨K, x, none⟩ = some (.string (ky (own m n x) (loc m n x)))
  spreads : ∀ x, x < first m n → w.cell? ⟨Sp, x, none⟩ = some (.bool (!(fg (own m n x) (loc m n x)).toList.isEmpty))
  frags : ∀ x, x < first m n → w.cell? ⟨FB, x, none⟩ = some (.int .i64 (fragVal (spreadOf fb nm m fg n x)))
  heldAt : ∀ x, x < first m n → w.cell? ⟨H, x, none⟩ = some (HV x)
  held : ∀ x, x < first m n → ListAt w (HV x) (heldList m par n (spreadOf fb nm m fg n) x)
  rootAt : ∀ d, d < n → w.cell? ⟨R, d, none⟩ = some (RV d)
  roots : ∀ d, d < n → ListAt w (RV d) (rootsTo m par n (first m n) d)
  firsts : ∀ j, j ≤ n → w.cell? ⟨F, j, none⟩ = some (.int .i64 (first m j))

theorem PartsAt.below {w w' : World} {n K Sp FB H R F : Nat} {HV RV : Nat → Value} {fb : Nat → Bool} {nm : Nat → ByteArray} {m : Nat → Nat} {par : Nat → Nat → Int} {ky fg : Nat → Nat → ByteArray}
    (h : PartsAt w n K Sp FB H R F HV RV fb nm m par ky fg) (hb : Below w.heap.size w w') : PartsAt w' n K Sp FB H R F HV RV fb nm m par ky fg := by
  have hc : ∀ {a : Addr} {v : Value}, w.cell? a = some v → w'.cell? a = some v := fun h => (hb.cell (lt_of_cell h)).trans h
  exact ⟨fun x hx => hc (h.keys x hx), fun x hx => hc (h.spreads x hx), fun x hx => hc (h.frags x hx), fun x hx => hc (h.heldAt x hx), fun x hx => (h.held x hx).below hb, fun x hx => hc (h.rootAt x hx), fun x hx => (h.roots x hx).below hb, fun x hx => hc (h.firsts x hx)⟩

theorem TreeAt.parts {w w' : World} {A n : Nat} {fb : Nat → Bool} {nm : Nat → ByteArray} {m : Nat → Nat} {par : Nat → Nat → Int} {ky fg : Nat → Nat → ByteArray} (h : TreeAt w w' A n fb nm m par ky fg) :
    ∃ K Sp FB H HV RV, PartsAt w' n K Sp FB H w.heap.size (w.heap.size + 1 + 1) HV RV fb nm m par ky fg ∧
      w'.rowIs (w.heap.size + 1) 66 7 (tCells A n w.heap.size (.slice (some ⟨K, 0, none⟩) (first m n) (first m n)) (.slice (some ⟨Sp, 0, none⟩) (first m n) (first m n)) (.slice (some ⟨FB, 0, none⟩) (first m n) (first m n)) (.slice (some ⟨H, 0, none⟩) (first m n) (first m n)) (.slice (some ⟨w.heap.size + 1 + 1, 0, none⟩) (n + 1) (n + 1))) ∧ Below w.heap.size w w' := by
  obtain ⟨K, Sp, H, FB, base, w0, V, hE, hL⟩ := h
  have hroot : ∀ d, d < n → ListAt w' (V d) (rootsTo m par n (first m n) d) := fun d hd => by
    have := hE.d.lists hL d (by omega)
    simpa only [listsTo, if_pos hd] using this
  have hkid : ∀ x, x < first m n → ListAt w' (V (n + x)) (kidsTo m par n (first m n) x) := fun x hx => by
    have := hE.d.lists hL (n + x) (by omega)
    simpa only [listsTo, if_neg (show ¬ n + x < n by omega), Nat.add_sub_cancel_left] using this
  refine ⟨K, Sp, FB, H, heldTo V n (spreadOf fb nm m fg n) (first m n), V, ⟨fun x hx => hE.d.k.cell hx, fun x hx => hE.d.s.cell hx, fun x hx => ?_, fun x hx => hE.d.h.cell hx, fun x hx => ?_, fun d hd => hE.d.r.cell hd, hroot, fun j hj => ?_⟩, hE.d.t, hE.d.below⟩
  · rw [hE.g.cell hx]; simp only [fragTo, if_pos hx]
  · simp only [heldTo, if_pos hx, heldList]
    cases e : spreadOf fb nm m fg n x with
    | none => exact hkid x hx
    | some d =>
      refine hroot d ?_
      unfold spreadOf at e
      split at e
      · cases e
      · exact (fragIx_lt n e).1
  · rw [hE.d.f.cell (show j < n + 1 by omega)]; simp only [firstTo, if_pos hj]

theorem results_tmp6 {fn : Func} {t0 t1 t2 t3 t4 t5 : Tmp} (h : fn.results = #[.tmp t0, .tmp t1, .tmp t2, .tmp t3, .tmp t4, .tmp t5]) (tmps : Array Value) (P : Program) (w : World) :
    (results fn tmps).run P w = .ok (.tuple #[tmps.getD t0 undef, tmps.getD t1 undef, tmps.getD t2 undef, tmps.getD t3 undef, tmps.getD t4 undef, tmps.getD t5 undef]) w := by
  simp [results, h]

/-- The six parts as they are handed back. -/
def sixParts (n all K Sp FB H R F : Nat) : Value :=
  .tuple #[.slice (some ⟨K, 0, none⟩) all all, .slice (some ⟨Sp, 0, none⟩) all all, .slice (some ⟨FB, 0, none⟩) all all, .slice (some ⟨H, 0, none⟩) all all, .slice (some ⟨R, 0, none⟩) n n, .slice (some ⟨F, 0, none⟩) (n + 1) (n + 1)]

set_option maxRecDepth 100000 in
set_option maxHeartbeats 1600000 in
theorem parts_any (a0 : Option Addr) (n c0 : Nat) (a1 : Option Addr) (c1 : Nat) (a2 : Option Addr) (c2 : Nat) (A2 : Nat → Option Addr) (m C2 : Nat → Nat) 
    (a3 : Option Addr) (c3 : Nat) (A3 : Nat → Option Addr) (C3 : Nat → Nat) (a4 : Option Addr) (c4 : Nat) (A4 : Nat → Option Addr) (C4 : Nat → Nat)
    (fb : Nat → Bool) (nm : Nat → ByteArray) (par : Nat → Nat → Int) (ky fg : Nat → Nat → ByteArray) (w : World) (hn : n ≤ 4096) (hm : ∀ i, i < n → m i ≤ 1048576) (hall : first m n ≤ 4096) (hs : ∀ i, i < n → (nm i).size ≤ maxLen) (hpar : ∀ i j, i < n → j < m i → par i j < (m i : Int)) (hfs : ∀ i j, i < n → j < m i → (fg i j).size ≤ maxLen)
    (h0 : RowAt w a0 n (fun i => .bool (fb i))) (h1 : RowAt w a1 n (fun i => .string (nm i))) (h2 : RowsAt w a2 n A2 m C2 (fun i j => .int .i64 (par i j))) (h3 : RowsAt w a3 n A3 m C3 (fun i j => .string (ky i j))) (h4 : RowsAt w a4 n A4 m C4 (fun i j => .string (fg i j))) :
    Calls Try.prog 14 #[.slice a0 n c0, .slice a1 n c1, .slice a2 n c2, .slice a3 n c3, .slice a4 n c4] w fun e w' => ∃ K Sp FB H R F HV RV, e = .returned (sixParts n (first m n) K Sp FB H R F) ∧ PartsAt w' n K Sp FB H R F HV RV fb nm m par ky fg ∧ Below w.heap.size w w' := by
  go_enter Try.func14, Try.ntmps14
  go_wp2_with fail
  refine (defs_any a0 n c0 a1 c1 a2 c2 A2 m C2 a3 c3 A3 C3 a4 c4 A4 C4 fb nm par ky fg w hn hm h0 h1 h2 h3 h4).mono ?_
  rintro e w1 ⟨rfl, ⟨D, S, hD⟩, hb1⟩
  clear h0 h1 h2 h3 h4
  go_wp2_with fail
  refine (tree_any _ n D S fb nm m par ky fg w1 hn hall hs hpar hfs hD).mono ?_
  rintro e w2 ⟨rfl, hT⟩
  obtain ⟨K, Sp, FB, H, HV, RV, hP, ht, hb2⟩ := hT.parts
  clear hT hD
  have t1 := ht.cell (show 1 < 7 by omega)
  have t2 := ht.cell (show 2 < 7 by omega)
  have t3 := ht.cell (show 3 < 7 by omega)
  have t4 := ht.cell (show 4 < 7 by omega)
  have t5 := ht.cell (show 5 < 7 by omega)
  have t6 := ht.cell (show 6 < 7 by omega)
  simp only [tCells] at t1 t2 t3 t4 t5 t6
  have HP := hide hP
  clear ht hP
  go_wp2
  go_quiet (fail)
  go_wp2
  (try simp only [Exit.inBlock, Exit.then])
  refine bodyPost_ret (results_tmp6 rfl _ _ _) rfl ?_
  exact ⟨K, Sp, FB, H, w1.heap.size, w1.heap.size + 1 + 1, HV, RV, rfl, HP.out.below (below_drewN (Below.refl _ _) _), below_drewN (hb1.trans (hb2.mono hb1.size)) _⟩

end Go.Proofs.Qxb6602394a.T
