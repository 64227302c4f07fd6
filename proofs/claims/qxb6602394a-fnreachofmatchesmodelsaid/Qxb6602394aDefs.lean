/-
  zzB1Definitions: the definitions of a document, laid out in new memory.
-/
import Derived.Test.Qxb6602394aClones
import Derived.Deep.RegionHeld3
import Derived.Deep.DeepCutAuto
import Derived.Deep.Light
namespace Go.Proofs.Qxb6602394a.T
open Go.RowKit
set_option linter.unusedVariables false

theorem info87 : (Try.prog.info? 87).map (fun i => (i.zero, i.size, i.bytes)) = some (some (.pointer none), 1, 8) := by kernel_rfl
theorem info95 : (Try.prog.info? 95).map (fun i => (i.zero, i.size, i.bytes)) = some (some (.agg #[.int .i64 0, .string ByteArray.empty, .string ByteArray.empty, .string ByteArray.empty, .int .i64 0, .int .i64 0]), 6, 72) := by kernel_rfl

/-- The six cells of a selection. -/
def selCell (p : Int) (k f : ByteArray) (c : Nat) : Value :=
  if c = 0 then .int .i64 p else if c = 1 then .string k else if c = 2 then .string f else if c = 3 then .string ByteArray.empty else .int .i64 0

theorem selCell_zero (c : Nat) (h : c < 6) : some (selCell 0 ByteArray.empty ByteArray.empty c) = (#[.int .i64 0, .string ByteArray.empty, .string ByteArray.empty, .string ByteArray.empty, .int .i64 0, .int .i64 0] : Array Value)[c]? := by
  match c, h with
  | 0, _ => rfl
  | 1, _ => rfl
  | 2, _ => rfl
  | 3, _ => rfl
  | 4, _ => rfl
  | 5, _ => rfl

/-- What a row of selections holds when the first q are laid. -/
def selRow (pp : Nat → Int) (kp fp : Nat → ByteArray) (q c : Nat) : Value :=
  if c < q * 6 then selCell (pp (c / 6)) (kp (c / 6)) (fp (c / 6)) (c % 6) else selCell 0 ByteArray.empty ByteArray.empty (c % 6)

theorem selRow_made (w : World) (pp : Nat → Int) (kp fp : Nat → ByteArray) (m : Nat) :
    (w.alloc (.cells (madeCells #[.int .i64 0, .string ByteArray.empty, .string ByteArray.empty, .string ByteArray.empty, .int .i64 0, .int .i64 0] (m * 6)) 95)).rowIs w.heap.size 95 (m * 6) (selRow pp kp fp 0) := by
  refine ⟨_, Deep.blk_alloc_new _ _, size_madeCells _ _, fun i hi => ?_⟩
  simp only [selRow, Nat.zero_mul, Nat.not_lt_zero, if_false]
  rw [selCell_zero _ (Nat.mod_lt _ (by omega))]
  have hb : i % 6 < 6 := Nat.mod_lt _ (by omega)
  simp [madeCells, hi, hb]

theorem selRow_step {w : World} {g m q : Nat} {pp : Nat → Int} {kp fp : Nat → ByteArray} (h : w.rowIs g 95 (m * 6) (selRow pp kp fp q)) :
    ((((((w.setCell ⟨g, q * 6, none⟩ (.int .i64 (pp q))).setCell ⟨g, q * 6 + 1, none⟩ (.string (kp q))).setCell ⟨g, q * 6 + 2, none⟩ (.string (fp q))).setCell ⟨g, q * 6 + 3, none⟩ (.string ⟨#[]⟩)).setCell ⟨g, q * 6 + 4, none⟩ (.int .i64 0)).setCell
      ⟨g, q * 6 + 5, none⟩ (.int .i64 0)).drew.rowIs g 95 (m * 6) (selRow pp kp fp (q + 1)) := by
  refine World.rowIs.drew (World.rowIs.congr ((((((h.set (q * 6) _).set (q * 6 + 1) _).set (q * 6 + 2) _).set (q * 6 + 3) _).set (q * 6 + 4) _).set (q * 6 + 5) _) (fun c _ => ?_))
  by_cases hc : q * 6 ≤ c ∧ c < q * 6 + 6
  · obtain ⟨k, rfl⟩ : ∃ k, c = q * 6 + k := ⟨c - q * 6, by omega⟩
    have e1 : (q * 6 + k) / 6 = q := by omega
    have e2 : (q * 6 + k) % 6 = k := by omega
    have e3 : q * 6 + k < (q + 1) * 6 := by omega
    have hk : k < 6 := by omega
    simp only [selRow, if_pos e3, e1, e2]
    match k, hk with
    | 0, _ => simp [selCell]
    | 1, _ => simp [selCell]
    | 2, _ => simp [selCell]
    | 3, _ => simp [selCell]; rfl
    | 4, _ => simp [selCell]
    | 5, _ => simp [selCell]
  · have n0 : ¬ c = q * 6 := by omega
    have n1 : ¬ c = q * 6 + 1 := by omega
    have n2 : ¬ c = q * 6 + 2 := by omega
    have n3 : ¬ c = q * 6 + 3 := by omega
    have n4 : ¬ c = q * 6 + 4 := by omega
    have n5 : ¬ c = q * 6 + 5 := by omega
    simp only [n0, n1, n2, n3, n4, n5, if_false, selRow]
    by_cases hl : c < q * 6
    · rw [if_pos hl, if_pos (by omega)]
    · rw [if_neg hl, if_neg (by omega)]

/-- One definition in memory. -/
structure DefAt (w : World) (d s m : Nat) (fb : Bool) (nm : ByteArray) (par : Nat → Int) (ky fg : Nat → ByteArray) : Prop where
  frag : w.cell? ⟨d, 0, none⟩ = some (.bool fb)
  name : w.cell? ⟨d, 2, none⟩ = some (.string nm)
  sels : w.cell? ⟨d, 10, none⟩ = some (.slice (some ⟨s, 0, none⟩) m m)
  sel : ∀ j c, j < m → c < 6 → w.cell? ⟨s, j * 6 + c, none⟩ = some (selCell (par j) (ky j) (fg j) c)
  here : ∃ cs t, w.heap[d]? = some (.cells cs t (0, 0))

theorem DefAt.kept {w w' : World} {d s m : Nat} {fb : Bool} {nm : ByteArray} {par : Nat → Int} {ky fg : Nat → ByteArray} (h : DefAt w d s m fb nm par ky fg) (hd : w'.heap[d]? = w.heap[d]?) (hs : w'.heap[s]? = w.heap[s]?) : DefAt w' d s m fb nm par ky fg :=
  ⟨(World.cell?_of_block (w := w) hd).trans h.frag, (World.cell?_of_block (w := w) hd).trans h.name, (World.cell?_of_block (w := w) hd).trans h.sels, fun j c hj hc => (World.cell?_of_block (w := w) hs).trans (h.sel j c hj hc), by obtain ⟨cs, t, e⟩ := h.here; exact ⟨cs, t, hd.trans e⟩⟩

theorem DefAt.below {w w' : World} {d s m : Nat} {fb : Bool} {nm : ByteArray} {par : Nat → Int} {ky fg : Nat → ByteArray} (h : DefAt w d s m fb nm par ky fg) (hb : Below w.heap.size w w') : DefAt w' d s m fb nm par ky fg :=
  ⟨(hb.cell (p := ⟨d, 0, none⟩) (lt_of_cell h.frag)).trans h.frag, (hb.cell (p := ⟨d, 2, none⟩) (lt_of_cell h.name)).trans h.name, (hb.cell (p := ⟨d, 10, none⟩) (lt_of_cell h.sels)).trans h.sels,
    fun j c hj hc => (hb.cell (p := ⟨s, j * 6 + c, none⟩) (lt_of_cell (h.sel j c hj hc))).trans (h.sel j c hj hc), by obtain ⟨cs, t, e⟩ := h.here; exact ⟨cs, t, (hb.block d (lt_of_cell h.frag)).trans e⟩⟩

/-- The definitions of a document in memory: a row of pointers, each to a struct of its own. -/
structure DefsAt (w : World) (A n : Nat) (D S : Nat → Nat) (fb : Nat → Bool) (nm : Nat → ByteArray) (m : Nat → Nat) (par : Nat → Nat → Int) (ky fg : Nat → Nat → ByteArray) : Prop where
  ptr : ∀ i, i < n → w.cell? ⟨A, i, none⟩ = some (.pointer (some ⟨D i, 0, none⟩))
  each : ∀ i, i < n → DefAt w (D i) (S i) (m i) (fb i) (nm i) (par i) (ky i) (fg i)
  inj : ∀ i j, i < n → j < n → D i = D j → i = j

theorem DefsAt.below {w w' : World} {A n : Nat} {D S : Nat → Nat} {fb : Nat → Bool} {nm : Nat → ByteArray} {m : Nat → Nat} {par : Nat → Nat → Int} {ky fg : Nat → Nat → ByteArray}
    (h : DefsAt w A n D S fb nm m par ky fg) (hb : Below w.heap.size w w') : DefsAt w' A n D S fb nm m par ky fg :=
  ⟨fun i hi => (hb.cell (p := ⟨A, i, none⟩) (lt_of_cell (h.ptr i hi))).trans (h.ptr i hi), fun i hi => (h.each i hi).below hb, h.inj⟩

/-- What zzB1Definitions has laid after p rounds. -/
structure Built (w : World) (A p : Nat) (D S : Nat → Nat) (fb : Nat → Bool) (nm : Nat → ByteArray) (m : Nat → Nat) (par : Nat → Nat → Int) (ky fg : Nat → Nat → ByteArray) : Prop where
  each : ∀ i, i < p → DefAt w (D i) (S i) (m i) (fb i) (nm i) (par i) (ky i) (fg i)
  lie : ∀ i, i < p → A < D i ∧ A < S i ∧ D i < w.heap.size ∧ S i < w.heap.size
  up : ∀ i j, i < j → j < p → D i < D j

theorem Built.next {wr w1 : World} {A p : Nat} {D S : Nat → Nat} {fb : Nat → Bool} {nm : Nat → ByteArray} {m : Nat → Nat} {par : Nat → Nat → Int} {ky fg : Nat → Nat → ByteArray} (h : Built wr A p D S fb nm m par ky fg) (d s : Nat)
    (hk : ∀ k, k < wr.heap.size → k ≠ A → w1.heap[k]? = wr.heap[k]?) (hsz : wr.heap.size ≤ w1.heap.size) (hA : A < wr.heap.size) (hd : wr.heap.size ≤ d) (hs : wr.heap.size ≤ s) (hd1 : d < w1.heap.size) (hs1 : s < w1.heap.size)
    (hnew : DefAt w1 d s (m p) (fb p) (nm p) (par p) (ky p) (fg p)) : Built w1 A (p + 1) (fun j => if j = p then d else D j) (fun j => if j = p then s else S j) fb nm m par ky fg := by
  refine ⟨fun i hi => ?_, fun i hi => ?_, fun i j hij hj => ?_⟩
  · by_cases e : i = p
    · subst e; simpa using hnew
    · simp only [if_neg e]
      obtain ⟨l1, l2, l3, l4⟩ := h.lie i (by omega)
      exact (h.each i (by omega)).kept (hk _ l3 (by omega)) (hk _ l4 (by omega))
  · by_cases e : i = p
    · subst e; simp only [if_true]; omega
    · simp only [if_neg e]
      obtain ⟨l1, l2, l3, l4⟩ := h.lie i (by omega)
      omega
  · have ei : ¬ i = p := by omega
    simp only [if_neg ei]
    obtain ⟨l1, l2, l3, l4⟩ := h.lie i (by omega)
    by_cases e : j = p
    · simp only [if_pos e]; omega
    · simp only [if_neg e]; exact h.up i j hij (by omega)

theorem run_make_sels (m : Nat) (hm : m ≤ 1048576) (w : World) :
    (Instr.makeSlice 89 (.int .i64 (m : Int)) (.int .i64 (m : Int))).run Try.prog w = .ok (.slice (some ⟨w.heap.size, 0, none⟩) m m) (w.alloc (.cells (madeCells #[.int .i64 0, .string ByteArray.empty, .string ByteArray.empty, .string ByteArray.empty, .int .i64 0, .int .i64 0] (m * 6)) 95)) := by
  obtain ⟨i, hi, hz, hs, hb⟩ := info_parts info95
  have hr := run_make (P := Try.prog) w 89 95 i _ Try.underlying89 hi hz .i64 .i64 m m (by omega) (Int.le_refl _) (by rw [hb]; omega) (by omega)
  simp only [Int.toNat_natCast, hs] at hr
  exact hr

/-- The last step of a round: the definition is boxed, its pointer stored. -/
theorem def_laid {wo wr : World} {A n p q : Nat} {D S : Nat → Nat} {fb : Nat → Bool} {nm : Nat → ByteArray} {m : Nat → Nat} {par : Nat → Nat → Int} {ky fg : Nat → Nat → ByteArray} {pp : Nat → Int} {kp fp : Nat → ByteArray}
    (h : Built wo A p D S fb nm m par ky fg) (hbi : Below wo.heap.size wo wr) (hA : A < wo.heap.size) (em : m p = q) (ep : par p = pp) (ek : ky p = kp) (ef : fg p = fp)
    (hsel : wr.rowIs wo.heap.size 95 (q * 6) (selRow pp kp fp q)) (hrow : wr.rowIs A 87 n (fun j => if j < p then .pointer (some ⟨D j, 0, none⟩) else .pointer none)) :
    (((wr.alloc (.cells #[.bool (fb p), .string ⟨#[]⟩, .string (nm p), .string ⟨#[]⟩, .int .i64 0, .int .i64 0, .int .i64 0, .int .i64 0, .slice none 0 0, .slice none 0 0, .slice (some ⟨wo.heap.size, 0, none⟩) q q, .slice none 0 0, .slice none 0 0, .slice none 0 0, .slice none 0 0, .int .i64 0] 93)).setCell ⟨A, p, none⟩ (.pointer (some ⟨wr.heap.size, 0, none⟩))).drew).rowIs A 87 n
      (fun j => if j < p + 1 then .pointer (some ⟨(if j = p then wr.heap.size else D j), 0, none⟩) else .pointer none) ∧
    Built (((wr.alloc (.cells #[.bool (fb p), .string ⟨#[]⟩, .string (nm p), .string ⟨#[]⟩, .int .i64 0, .int .i64 0, .int .i64 0, .int .i64 0, .slice none 0 0, .slice none 0 0, .slice (some ⟨wo.heap.size, 0, none⟩) q q, .slice none 0 0, .slice none 0 0, .slice none 0 0, .slice none 0 0, .int .i64 0] 93)).setCell ⟨A, p, none⟩ (.pointer (some ⟨wr.heap.size, 0, none⟩))).drew) A (p + 1)
      (fun j => if j = p then wr.heap.size else D j) (fun j => if j = p then wo.heap.size else S j) fb nm m par ky fg := by
  have hsl : wo.heap.size < wr.heap.size := hsel.lt
  have hAr : A < wr.heap.size := by omega
  generalize hobj : Obj.cells #[.bool (fb p), .string ⟨#[]⟩, .string (nm p), .string ⟨#[]⟩, .int .i64 0, .int .i64 0, .int .i64 0, .int .i64 0, .slice none 0 0, .slice none 0 0, .slice (some ⟨wo.heap.size, 0, none⟩) q q, .slice none 0 0, .slice none 0 0, .slice none 0 0, .slice none 0 0, .int .i64 0] 93 = obj
  have hk : ∀ k, k < wr.heap.size → k ≠ A → (((wr.alloc obj).setCell ⟨A, p, none⟩ (.pointer (some ⟨wr.heap.size, 0, none⟩))).drew).heap[k]? = wr.heap[k]? := fun k h1 h2 =>
    (Below.heap_setCell (wr.alloc obj) ⟨A, p, none⟩ _ k h2).trans (Below.heap_alloc wr obj k h1)
  have hnew : (((wr.alloc obj).setCell ⟨A, p, none⟩ (.pointer (some ⟨wr.heap.size, 0, none⟩))).drew).heap[wr.heap.size]? = some obj :=
    (Below.heap_setCell (wr.alloc obj) ⟨A, p, none⟩ _ wr.heap.size (by show _ ≠ A; omega)).trans (Deep.blk_alloc_new wr obj)
  have hsz : (((wr.alloc obj).setCell ⟨A, p, none⟩ (.pointer (some ⟨wr.heap.size, 0, none⟩))).drew).heap.size = wr.heap.size + 1 := by simp [World.setCell, World.drew]
  refine ⟨?_, ?_⟩
  · refine World.rowIs.drew (World.rowIs.congr ((hrow.alloc obj).set p _) (fun j _ => ?_))
    by_cases e : j = p
    · subst e; simp
    · simp only [if_neg e]
      by_cases e2 : j < p
      · rw [if_pos e2, if_pos (by omega)]
      · rw [if_neg e2, if_neg (by omega)]
  · refine Built.next h wr.heap.size wo.heap.size (fun k h1 h2 => (hk k (by omega) h2).trans (hbi.block k h1)) (by omega) hA (by omega) (Nat.le_refl _) (by omega) (by omega) ?_
    subst hobj
    refine ⟨?_, ?_, ?_, fun j c hj hc => ?_, ⟨_, _, hnew⟩⟩
    · simp only [World.cell?, hnew]; rfl
    · simp only [World.cell?, hnew]; rfl
    · simp only [World.cell?, hnew, em]; rfl
    · rw [World.cell?_of_block (w := wr) (a := ⟨wo.heap.size, j * 6 + c, none⟩) (hk wo.heap.size hsl (by omega)), hsel.cell (show j * 6 + c < q * 6 by omega), ep, ek, ef]
      have e1 : (j * 6 + c) / 6 = j := by omega
      have e2 : (j * 6 + c) % 6 = c := by omega
      simp only [selRow, if_pos (show j * 6 + c < q * 6 by omega), e1, e2]

set_option maxRecDepth 100000 in
set_option maxHeartbeats 1600000 in
theorem defs_any (a0 : Option Addr) (n c0 : Nat) (a1 : Option Addr) (c1 : Nat) (a2 : Option Addr) (c2 : Nat) (A2 : Nat → Option Addr) (m C2 : Nat → Nat) 
    (a3 : Option Addr) (c3 : Nat) (A3 : Nat → Option Addr) (C3 : Nat → Nat) (a4 : Option Addr) (c4 : Nat) (A4 : Nat → Option Addr) (C4 : Nat → Nat)
    (fb : Nat → Bool) (nm : Nat → ByteArray) (par : Nat → Nat → Int) (ky fg : Nat → Nat → ByteArray) (w : World) (hn : n ≤ 4096) (hm : ∀ i, i < n → m i ≤ 1048576)
    (h0 : RowAt w a0 n (fun i => .bool (fb i))) (h1 : RowAt w a1 n (fun i => .string (nm i))) (h2 : RowsAt w a2 n A2 m C2 (fun i j => .int .i64 (par i j))) (h3 : RowsAt w a3 n A3 m C3 (fun i j => .string (ky i j))) (h4 : RowsAt w a4 n A4 m C4 (fun i j => .string (fg i j))) :
    Calls Try.prog 34 #[.slice a0 n c0, .slice a1 n c1, .slice a2 n c2, .slice a3 n c3, .slice a4 n c4] w fun e w' => e = .returned (.slice (some ⟨w.heap.size, 0, none⟩) n n) ∧ (∃ D S, DefsAt w' w.heap.size n D S fb nm m par ky fg) ∧ Below w.heap.size w w' := by
  have hmk := run_make_row' (P := Try.prog) 63 87 (.pointer none) 8 Try.underlying63 info87 rfl .i64 .i64 n (by omega) (by omega)
  go_enter Try.func34, Try.ntmps34
  go_wp2
  clear hmk
  go_loopg [12, 13, 14, 20] n (fun k _ _ _ i wr => ∃ p : Nat, ∃ D S : Nat → Nat, k = n - p ∧ p ≤ n ∧ i = .int .i64 p ∧ wr.rowIs w.heap.size 87 n (fun j => if j < p then .pointer (some ⟨D j, 0, none⟩) else .pointer none) ∧ Built wr w.heap.size p D S fb nm m par ky fg ∧ Below w.heap.size w wr)
  case atStart => exact ⟨0, fun _ => 0, fun _ => 0, rfl, Nat.zero_le _, rfl, (World.rowIs_made w _ n 87).congr (fun j _ => by simp), ⟨fun i hi => by omega, fun i hi => by omega, fun i j hi hj => by omega⟩, (Below.refl _ _).alloc (Nat.le_refl _) _⟩
  case round =>
    obtain ⟨p, D, S, hk, hpn, rfl, hrow, hbuilt, hb⟩ := hrel
    have HK : Hid (gk = n - p) := hk
    clear hk
    by_cases hlt : p < n
    · obtain ⟨b0, o0, rfl, k0⟩ := h0 p hlt
      obtain ⟨b1, o1, rfl, k1⟩ := h1 p hlt
      obtain ⟨b2, o2, rfl, k2⟩ := h2.outer p hlt
      obtain ⟨b3, o3, rfl, k3⟩ := h3.outer p hlt
      obtain ⟨b4, o4, rfl, k4⟩ := h4.outer p hlt
      have hb' : ∀ {a : Addr} {v : Value}, w.cell? a = some v → wr.cell? a = some v := fun h => (hb.cell (lt_of_cell h)).trans h
      have q0 : wr.cell? ⟨b0, o0 + p, none⟩ = some (.bool (fb p)) := hb' k0
      have q1 : wr.cell? ⟨b1, o1 + p, none⟩ = some (.string (nm p)) := hb' k1
      have q2 : wr.cell? ⟨b2, o2 + p, none⟩ = some (.slice (A2 p) (m p) (C2 p)) := hb' k2
      have q3 : wr.cell? ⟨b3, o3 + p, none⟩ = some (.slice (A3 p) (m p) (C3 p)) := hb' k3
      have q4 : wr.cell? ⟨b4, o4 + p, none⟩ = some (.slice (A4 p) (m p) (C4 p)) := hb' k4
      have nn0 := World.new_ne w _ k0
      have nn1 := World.new_ne w _ k1
      have j2 := h2.inner p hlt
      have j3 := h3.inner p hlt
      have j4 := h4.inner p hlt
      have hmk2 := run_make_sels (m p) (hm p hlt)
      have hmp := hm p hlt
      clear h0 h1 h2 h3 h4 k0 k1 k2 k3 k4 hm hb'
      generalize A2 p = x2 at *
      generalize A3 p = x3 at *
      generalize A4 p = x4 at *
      generalize C2 p = y2 at *
      generalize C3 p = y3 at *
      generalize C4 p = y4 at *
      generalize Epp : par p = pp at *
      have Hpp : Hid (par p = pp) := Epp
      clear Epp
      generalize Ekp : ky p = kp at *
      have Hkp : Hid (ky p = kp) := Ekp
      clear Ekp
      generalize Efp : fg p = fp at *
      have Hfp : Hid (fg p = fp) := Efp
      clear Efp
      generalize Emp : m p = mp at *
      have Hmp : Hid (m p = mp) := Emp
      clear Emp
      go_wp2
      clear hmk2
      obtain ⟨wo, rfl⟩ : ∃ wo : World, wo = wr := ⟨_, rfl⟩
      obtain ⟨g0, rfl⟩ : ∃ g0 : Nat, g0 = gk := ⟨_, rfl⟩
      go_loopg [14, 31] mp (fun k _ i wr => ∃ q : Nat, k = mp - q ∧ q ≤ mp ∧ i = .int .i64 q ∧ Below wo.heap.size wo wr ∧ wr.rowIs wo.heap.size 95 (mp * 6) (selRow pp kp fp q))
      case atStart => exact ⟨0, rfl, Nat.zero_le _, rfl, (Below.refl _ _).alloc (Nat.le_refl _) _, selRow_made wo pp kp fp mp⟩
      case round =>
        obtain ⟨q, hk2, hqm, rfl, hbi, hsel⟩ := hrel
        have HK2 : Hid (gk = mp - q) := hk2
        clear hk2
        by_cases hq : q < mp
        · obtain ⟨d2, f2, rfl, l2⟩ := j2 q hq
          obtain ⟨d3, f3, rfl, l3⟩ := j3 q hq
          obtain ⟨d4, f4, rfl, l4⟩ := j4 q hq
          have hb' : ∀ {a : Addr} {v : Value}, wo.cell? a = some v → wr.cell? a = some v := fun h => (hbi.cell (lt_of_cell h)).trans h
          have hb0 : ∀ {a : Addr} {v : Value}, w.cell? a = some v → wo.cell? a = some v := fun h => (hb.cell (lt_of_cell h)).trans h
          have r2 := hb' q2
          have r3 := hb' q3
          have r4 := hb' q4
          have s2 : wr.cell? ⟨d2, f2 + q, none⟩ = some (.int .i64 (pp q)) := hb' (hb0 l2)
          have s3 : wr.cell? ⟨d3, f3 + q, none⟩ = some (.string (kp q)) := hb' (hb0 l3)
          have s4 : wr.cell? ⟨d4, f4 + q, none⟩ = some (.string (fp q)) := hb' (hb0 l4)
          have t0 := hsel.cell (show q * 6 < mp * 6 by omega)
          have t1 := hsel.cell (show q * 6 + 1 < mp * 6 by omega)
          have t2 := hsel.cell (show q * 6 + 2 < mp * 6 by omega)
          have t3 := hsel.cell (show q * 6 + 3 < mp * 6 by omega)
          have t4 := hsel.cell (show q * 6 + 4 < mp * 6 by omega)
          have t5 := hsel.cell (show q * 6 + 5 < mp * 6 by omega)
          have z0 := hsel.frozen (q * 6)
          have z1 := hsel.frozen (q * 6 + 1)
          have z2 := hsel.frozen (q * 6 + 2)
          have z3 := hsel.frozen (q * 6 + 3)
          have z4 := hsel.frozen (q * 6 + 4)
          have z5 := hsel.frozen (q * 6 + 5)
          have HSEL : Hid (wr.rowIs wo.heap.size 95 (mp * 6) (selRow pp kp fp q)) := hsel
          have i0 : (0 : Int) ≤ (p : Int) := by omega
          have i1 : (p : Int) < (n : Int) := by omega
          have i2 : (0 : Int) ≤ (q : Int) := by omega
          have i3 : (q : Int) < (mp : Int) := by omega
          have ne2 := World.new_ne wo _ q2
          have ne3 := World.new_ne wo _ q3
          have ne4 := World.new_ne wo _ q4
          have me2 := World.new_ne wo _ (hb0 l2)
          have me3 := World.new_ne wo _ (hb0 l3)
          have me4 := World.new_ne wo _ (hb0 l4)
          clear hsel hb' hb0 q0 q1 q2 q3 q4 l2 l3 l4 j2 j3 j4
          go_wp2
          go_region_held3 (fun w' => w'.cell? ⟨b2, o2 + p, none⟩ = some (.slice (some ⟨d2, f2, none⟩) mp y2) ∧ w'.cell? ⟨b3, o3 + p, none⟩ = some (.slice (some ⟨d3, f3, none⟩) mp y3) ∧ w'.cell? ⟨b4, o4 + p, none⟩ = some (.slice (some ⟨d4, f4, none⟩) mp y4) ∧ w'.cell? ⟨d2, f2 + q, none⟩ = some (.int .i64 (pp q)) ∧ w'.cell? ⟨d3, f3 + q, none⟩ = some (.string (kp q)) ∧ w'.cell? ⟨d4, f4 + q, none⟩ = some (.string (fp q))) (go_keep) (fail)
          go_wp2
          go_roundg (mp - (q + 1))
          case measure => rw [HK2.out]; omega
          case rel => exact ⟨q + 1, rfl, by omega, by go_num, ((((((hbi.setCell (Nat.le_refl _) _).setCell (Nat.le_refl _) _).setCell (Nat.le_refl _) _).setCell (Nat.le_refl _) _).setCell (Nat.le_refl _) _).setCell (Nat.le_refl _) _).drew, selRow_step HSEL.out⟩
        · have hqe : q = mp := by omega
          subst hqe
          have hb' : ∀ {a : Addr} {v : Value}, wo.cell? a = some v → wr.cell? a = some v := fun h => (hbi.cell (lt_of_cell h)).trans h
          have r0 := hb' q0
          have r1 := hb' q1
          have hAlt : w.heap.size < wo.heap.size := hrow.lt
          have hrow1 : wr.rowIs w.heap.size 87 n (fun j => if j < p then .pointer (some ⟨D j, 0, none⟩) else .pointer none) := World.rowIs.of_block hrow (hbi.block _ hAlt)
          have hcr := hrow1.cell hlt
          have hfr := hrow1.frozen p
          simp only [Nat.lt_irrefl, if_false] at hcr
          have HROW1 : Hid (wr.rowIs w.heap.size 87 n (fun j => if j < p then .pointer (some ⟨D j, 0, none⟩) else .pointer none)) := hrow1
          have ne0 := World.new_ne wr _ r0
          have ne1 := World.new_ne wr _ r1
          have neA : wr.heap.size ≠ w.heap.size := by have := hrow1.lt; omega
          have hcrA : ∀ o, (wr.alloc o).cell? ⟨w.heap.size, p, none⟩ = some (.pointer none) := fun o => (World.cell?_of_block (w := wr) (Below.heap_alloc _ _ _ hrow1.lt)).trans hcr
          have hfrA : ∀ o, (wr.alloc o).frozen? ⟨w.heap.size, p, none⟩ = false := fun o => (World.frozen?_of_block (w := wr) (Below.heap_alloc _ _ _ hrow1.lt)).trans hfr
          have HSEL : Hid (wr.rowIs wo.heap.size 95 (q * 6) (selRow pp kp fp q)) := hsel
          have hsl := hsel.lt
          have i0 : (0 : Int) ≤ (p : Int) := by omega
          have i1 : (p : Int) < (n : Int) := by omega
          clear hsel hb' hrow hrow1 q0 q1 q2 q3 q4 j2 j3 j4
          go_wp2
          go_region_held3 (fun w' => w'.cell? ⟨b0, o0 + p, none⟩ = some (.bool (fb p)) ∧ w'.cell? ⟨b1, o1 + p, none⟩ = some (.string (nm p))) (go_keep) (fail)
          go_wp2
          go_roundg (n - (p + 1))
          case measure => rw [HK.out]; omega
          case rel =>
            have hfin := def_laid (D := D) (S := S) (fb := fb) (nm := nm) (m := m) (par := par) (ky := ky) (fg := fg) hbuilt hbi hAlt Hmp.out Hpp.out Hkp.out Hfp.out HSEL.out HROW1.out
            exact ⟨p + 1, _, _, rfl, by omega, by go_num, hfin.1, hfin.2, (((hb.trans (hbi.mono (Nat.le_of_lt hAlt))).alloc (by have := hbi.size; omega) _).setCell (Nat.le_refl _) _).drew⟩
    · have HD : Hid (∃ D S, DefsAt wr w.heap.size n D S fb nm m par ky fg) := by
        refine ⟨D, S, fun i hi => ?_, fun i hi => hbuilt.each i (by omega), fun i j hi hj e => ?_⟩
        · have := hrow.cell hi
          rw [if_pos (by omega)] at this
          exact this
        · rcases Nat.lt_trichotomy i j with h | h | h
          · have := hbuilt.up i j h (by omega); omega
          · exact h
          · have := hbuilt.up j i h (by omega); omega
      clear hrow hbuilt h0 h1 h2 h3 h4 hm
      go_wp2
      go_ret
      exact ⟨rfl, HD.out, hb⟩

end Go.Proofs.Qxb6602394a.T
