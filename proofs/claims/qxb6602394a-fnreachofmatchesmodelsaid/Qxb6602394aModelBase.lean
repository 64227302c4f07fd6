/-
  b1BuildTreeModel: what lies in memory while the model is built.
-/
import Derived.Test.Qxb6602394aSmall
namespace Go.Proofs.Qxb6602394a.T
open Go.RowKit
set_option linter.unusedVariables false

theorem ListAt.kept {w w' : World} {v : Value} {L : List Nat} (h : ListAt w v L) (hk : ∀ g, v.ownBlock = some g → w'.heap[g]? = w.heap[g]?) : ListAt w' v L := by
  rcases h with h | ⟨h0, g, cap, hv, hc⟩
  · exact .inl h
  · exact .inr ⟨h0, g, cap, hv, fun j hj => (World.cell?_of_block (w := w) (hk g (by rw [hv]; rfl))).trans (hc j hj)⟩

/-- No list's block is one of these. -/
def Off (v : Value) (p : Nat → Prop) : Prop := ∀ g, v.ownBlock = some g → p g

theorem Owns.off {w : World} {base : Nat} {v : Value} {L : List Nat} (h : Owns w base v L) : Off v (fun g => base ≤ g ∧ g < w.heap.size) := fun g e => h.1.lt g e

/-- 'append' of one number onto a list that the call owns, at a plain region's list of operations. -/
theorem wpList_app {ops : Array Oper} {rest : List Oper} {o : Oper} {a : Act} {Q : Exit → Act → World → Prop} (w : World) (hgd : o.guard = none) (s x : Operand)
    (ho : o.op = .call { callee := .builtin .append, args := #[s, x], argTypes := #[32, 32] })
    (base : Nat) (v : Value) (L : List Nat) (y : Nat) (hs : a.eval s = v) (hown : Owns w base v L) (B : Nat) (hx : a.eval x = .slice (some ⟨B, 0, none⟩) 1 1) (hB : w.cell? ⟨B, 0, none⟩ = some (.int .i64 (y : Int))) (hlen : L.length ≤ 4096) (hbase : base ≤ w.heap.size)
    (h : ∀ g cap w', w'.ownsRow base 3 1 (.slice (some ⟨g, 0, none⟩) (L.length + 1) cap) (L.length + 1) (numCells L ++ [.int .i64 (y : Int)]) → w.grownBy w' v.ownBlock → (v.ownBlock = some g ∨ g = w.heap.size) → g < w'.heap.size →
      wpList Try.prog ops Q rest (a.put o.dst (.slice (some ⟨g, 0, none⟩) (L.length + 1) cap)) w') : wpList Try.prog ops Q (o :: rest) a w := by
  obtain ⟨i0, hi0, hz0, hz1, hz2⟩ := info_parts info3
  refine wpList_append_lies w hgd s x 32 ho base 3 i0 (.int .i64 0) 1 8 Try.underlying32 hi0 hz0 hz1 hz2 rfl (by omega) v L.length (numCells L) hs hown.1 ⟨B, 0, none⟩ 1 1 [.int .i64 (y : Int)] hx rfl (fun j u hu => ?_) (fun u hu => ?_) (by omega) (by unfold maxLen; omega) (by omega) hbase _ rfl h
  · match j, hu with
    | 0, hu => simp at hu; subst hu; exact hB
  · simp at hu; subst hu; rfl

theorem Owns.snoc {w w1 : World} {base : Nat} {L : List Nat} {y g cap : Nat} (hown : w1.ownsRow base 3 1 (.slice (some ⟨g, 0, none⟩) (L.length + 1) cap) (L.length + 1) (numCells L ++ [.int .i64 (y : Int)])) : Owns w1 base (.slice (some ⟨g, 0, none⟩) (L.length + 1) cap) (L ++ [y]) := by
  refine ⟨?_, fun h => by simp at h⟩
  rw [numCells_snoc, List.length_append, List.length_singleton]
  exact hown

def ownersTo (m : Nat → Nat) (n c : Nat) : List Nat := (List.range c).map (own m n)
def localsTo (m : Nat → Nat) (n c : Nat) : List Nat := (List.range c).map (loc m n)
theorem ownersTo_length (m : Nat → Nat) (n c : Nat) : (ownersTo m n c).length = c := by simp [ownersTo]
theorem localsTo_length (m : Nat → Nat) (n c : Nat) : (localsTo m n c).length = c := by simp [localsTo]
theorem ownersTo_succ (m : Nat → Nat) (n c : Nat) : ownersTo m n (c + 1) = ownersTo m n c ++ [own m n c] := by simp [ownersTo, List.range_succ]
theorem localsTo_succ (m : Nat → Nat) (n c : Nat) : localsTo m n (c + 1) = localsTo m n c ++ [loc m n c] := by simp [localsTo, List.range_succ]
theorem ownersTo_get {m : Nat → Nat} {n c j : Nat} (h : j < c) : (ownersTo m n c).getD j 0 = own m n j := by simp [ownersTo, List.getD, h]
theorem localsTo_get {m : Nat → Nat} {n c j : Nat} (h : j < c) : (localsTo m n c).getD j 0 = loc m n j := by simp [localsTo, List.getD, h]

/-- The cells of the model. -/
def mCells (al vo vl vf vh vr : Value) (i : Nat) : Value :=
  match i with
  | 0 => al
  | 1 => vo
  | 2 => vl
  | 3 => vf
  | 4 => vh
  | _ => vr

abbrev nilS : Value := .slice none 0 0
abbrev rowOf (b n : Nat) : Value := .slice (some ⟨b, 0, none⟩) n n

/-- While owner and local are filled: c selections are listed. -/
structure Ph1 (w wr : World) (m : Nat → Nat) (n c0 c1 : Nat) (V : Nat → Value) : Prop where
  below : Below w.heap.size w wr
  z : wr.rowIs w.heap.size 36 6 (mCells (.int .i64 0) nilS nilS nilS nilS nilS)
  b : wr.rowIs (w.heap.size + 1) 36 6 (mCells (.int .i64 0) (V 0) (V 1) nilS nilS nilS)
  ls : Lists wr (w.heap.size + 2) 2 V (fun k => if k = 0 then ownersTo m n c0 else localsTo m n c1)
  top : w.heap.size + 2 ≤ wr.heap.size

theorem zeros_row (w : World) : (w.alloc (.cells #[.int .i64 0, nilS, nilS, nilS, nilS, nilS] 36)).rowIs w.heap.size 36 6 (mCells (.int .i64 0) nilS nilS nilS nilS nilS) :=
  World.rowIs_alloc w _ 36 _ (fun i hi => by
    have : i < 6 := by simpa using hi
    match i, this with
    | 0, _ => rfl
    | 1, _ => rfl
    | 2, _ => rfl
    | 3, _ => rfl
    | 4, _ => rfl
    | 5, _ => rfl)

theorem Ph1.start (w : World) (m : Nat → Nat) (n : Nat) :
    Ph1 w ((w.alloc (.cells #[.int .i64 0, nilS, nilS, nilS, nilS, nilS] 36)).alloc (.cells #[.int .i64 0, nilS, nilS, nilS, nilS, nilS] 36)) m n 0 0 (fun _ => nilS) := by
  have h2 := zeros_row (w.alloc (.cells #[.int .i64 0, nilS, nilS, nilS, nilS, nilS] 36))
  rw [show (w.alloc (.cells #[.int .i64 0, nilS, nilS, nilS, nilS, nilS] 36)).heap.size = w.heap.size + 1 by simp] at h2
  refine ⟨((Below.refl _ _).alloc (Nat.le_refl _) _).alloc (by simp) _, (zeros_row w).alloc _, h2, (Lists.start _ _ _).congr (fun _ _ => rfl) (fun k hk => ?_), by simp⟩
  simp [ownersTo, localsTo]

theorem Ph1.grown {w wr w1 : World} {m : Nat → Nat} {n c0 c1 : Nat} {V : Nat → Value} (h : Ph1 w wr m n c0 c1 V) (o : Obj) {k : Nat} (hk : k < 2) (hg : (wr.alloc o).grownBy w1 (V k).ownBlock) :
    Below w.heap.size w w1 ∧ w1.rowIs w.heap.size 36 6 (mCells (.int .i64 0) nilS nilS nilS nilS nilS) ∧ w1.rowIs (w.heap.size + 1) 36 6 (mCells (.int .i64 0) (V 0) (V 1) nilS nilS nilS) ∧ w.heap.size + 2 ≤ w1.heap.size := by
  have ht := h.top
  have hlow : ∀ g, (V k).ownBlock = some g → w.heap.size + 2 ≤ g := fun g e => ((h.ls.owns k hk).1.lt g e).1
  have hb : ∀ g, g < w.heap.size + 2 → w1.heap[g]? = wr.heap[g]? := fun g hg' => (hg.block g (by simp; omega) (fun e => by have := hlow g e.symm; omega)).trans (Below.heap_alloc _ _ _ (by omega))
  refine ⟨(h.below.alloc (by omega) _).grown hg (by simp; omega) (fun g e => by have := hlow g e; omega), h.z.of_block (hb _ (by omega)), h.b.of_block (hb _ (by omega)), ?_⟩
  have := hg.size
  simp at this
  omega

theorem Ph1.app0 {w wr w1 : World} {m : Nat → Nat} {n c : Nat} {V : Nat → Value} (h : Ph1 w wr m n c c V) (o : Obj) {g cap : Nat} {y : Nat} (hy : y = own m n c)
    (hown : w1.ownsRow (w.heap.size + 2) 3 1 (.slice (some ⟨g, 0, none⟩) ((ownersTo m n c).length + 1) cap) ((ownersTo m n c).length + 1) (numCells (ownersTo m n c) ++ [.int .i64 (y : Int)]))
    (hg : (wr.alloc o).grownBy w1 (V 0).ownBlock) (hat : (V 0).ownBlock = some g ∨ g = (wr.alloc o).heap.size) :
    Ph1 w (w1.setCell ⟨w.heap.size + 1, 1, none⟩ (.slice (some ⟨g, 0, none⟩) ((ownersTo m n c).length + 1) cap)) m n (c + 1) c (fun k => if k = 0 then .slice (some ⟨g, 0, none⟩) ((ownersTo m n c).length + 1) cap else V k) := by
  obtain ⟨h1, h2, h3, h4⟩ := h.grown o (show 0 < 2 by omega) hg
  have hl := Lists.append (h.ls.alloc o) (show 0 < 2 by omega) (by have := h.top; simp; omega) hown hg hat
  refine ⟨h1.setCell (Nat.le_succ _) _, h2.setOther (by show w.heap.size ≠ w.heap.size + 1; omega) _, World.rowIs.congr (h3.set 1 _) (fun i hi => ?_), (hl.setBelow (by show w.heap.size + 1 < w.heap.size + 2; omega) _).congr (fun k hk => rfl) (fun k hk => ?_), ?_⟩
  · match i, hi with
    | 0, _ => rfl
    | 1, _ => rfl
    | 2, _ => rfl
    | 3, _ => rfl
    | 4, _ => rfl
    | 5, _ => rfl
  · by_cases e : k = 0
    · subst e; simp [ownersTo_succ, hy]
    · simp [e]
  · simpa [World.setCell] using h4

theorem Ph1.app1 {w wr w1 : World} {m : Nat → Nat} {n c : Nat} {V : Nat → Value} (h : Ph1 w wr m n (c + 1) c V) (o : Obj) {g cap : Nat} {y : Nat} (hy : y = loc m n c)
    (hown : w1.ownsRow (w.heap.size + 2) 3 1 (.slice (some ⟨g, 0, none⟩) ((localsTo m n c).length + 1) cap) ((localsTo m n c).length + 1) (numCells (localsTo m n c) ++ [.int .i64 (y : Int)]))
    (hg : (wr.alloc o).grownBy w1 (V 1).ownBlock) (hat : (V 1).ownBlock = some g ∨ g = (wr.alloc o).heap.size) :
    Ph1 w (w1.setCell ⟨w.heap.size + 1, 2, none⟩ (.slice (some ⟨g, 0, none⟩) ((localsTo m n c).length + 1) cap)) m n (c + 1) (c + 1) (fun k => if k = 1 then .slice (some ⟨g, 0, none⟩) ((localsTo m n c).length + 1) cap else V k) := by
  obtain ⟨h1, h2, h3, h4⟩ := h.grown o (show 1 < 2 by omega) hg
  have hl := Lists.append (h.ls.alloc o) (show 1 < 2 by omega) (by have := h.top; simp; omega) hown hg hat
  refine ⟨h1.setCell (Nat.le_succ _) _, h2.setOther (by show w.heap.size ≠ w.heap.size + 1; omega) _, World.rowIs.congr (h3.set 2 _) (fun i hi => ?_), (hl.setBelow (by show w.heap.size + 1 < w.heap.size + 2; omega) _).congr (fun k hk => rfl) (fun k hk => ?_), ?_⟩
  · match i, hi with
    | 0, _ => rfl
    | 1, _ => rfl
    | 2, _ => rfl
    | 3, _ => rfl
    | 4, _ => rfl
    | 5, _ => rfl
  · by_cases e : k = 1
    · subst e; simp [localsTo_succ, hy]
    · have : k = 0 := by omega
      subst this; simp
  · simpa [World.setCell] using h4

/-- A list as a row that is read. -/
theorem ListAt.row {w : World} {v : Value} {L : List Nat} (h : ListAt w v L) : ∃ a c, v = .slice a L.length c ∧ RowAt w a L.length (fun j => .int .i64 ((L.getD j 0 : Nat) : Int)) := by
  rcases h with ⟨h0, hv⟩ | ⟨h0, g, cap, hv, hc⟩
  · subst h0
    exact ⟨none, 0, hv, fun j hj => by simp at hj⟩
  · exact ⟨_, _, hv, fun j hj => ⟨g, 0, rfl, by rw [Nat.zero_add]; exact hc j hj⟩⟩

theorem ListAt.rowOf {w : World} {a : Option Addr} {n c : Nat} {L : List Nat} (h : ListAt w (.slice a n c) L) : RowAt w a L.length (fun j => .int .i64 ((L.getD j 0 : Nat) : Int)) := by
  obtain ⟨a', c', e, hr⟩ := h.row
  simp only [Value.slice.injEq] at e
  rw [e.1]; exact hr

theorem owners_row {w : World} {a : Option Addr} {k c n all : Nat} {m : Nat → Nat} (h : ListAt w (.slice a k c) (ownersTo m n all)) : RowAt w a all (fun j => .int .i64 (own m n j : Int)) := by
  have := h.rowOf
  rw [ownersTo_length] at this
  exact this.congr (fun j hj => by rw [ownersTo_get hj])

theorem locals_row {w : World} {a : Option Addr} {k c n all : Nat} {m : Nat → Nat} (h : ListAt w (.slice a k c) (localsTo m n all)) : RowAt w a all (fun j => .int .i64 (loc m n j : Int)) := by
  have := h.rowOf
  rw [localsTo_length] at this
  exact this.congr (fun j hj => by rw [localsTo_get hj])

theorem Owns.below {w w' : World} {base : Nat} {v : Value} {L : List Nat} (h : Owns w base v L) (hb : Below w.heap.size w w') : Owns w' base v L := h.kept (fun b _ hb' => hb.block b hb')

/-- One number more on a list of the call's own: what else lies below the list's base is as it was. -/
theorem app_below {wo wr w1 : World} {base : Nat} {v : Value} {L : List Nat} {y g cap : Nat} (o : Obj) (hO : Owns wr base v L) (hb : Below base wo wr) (hbase : base ≤ wr.heap.size)
    (hown : w1.ownsRow base 3 1 (.slice (some ⟨g, 0, none⟩) (L.length + 1) cap) (L.length + 1) (numCells L ++ [.int .i64 (y : Int)])) (hg : (wr.alloc o).grownBy w1 v.ownBlock) :
    Owns w1 base (.slice (some ⟨g, 0, none⟩) (L.length + 1) cap) (L ++ [y]) ∧ Below base wo w1 :=
  ⟨Owns.snoc (w := wr) hown, (hb.alloc hbase _).grown hg (by simp; omega) (fun k e => (hO.off k e).1)⟩

/-- While the roots are listed: those of the first d definitions stand. -/
structure Ph2 (w wr : World) (m : Nat → Nat) (par : Nat → Nat → Int) (n RB : Nat) (vo vl : Value) (RV : Nat → Value) (d : Nat) : Prop where
  below : Below w.heap.size w wr
  z : wr.rowIs w.heap.size 36 6 (mCells (.int .i64 0) nilS nilS nilS nilS nilS)
  b : wr.rowIs (w.heap.size + 1) 36 6 (mCells (.int .i64 (first m n : Int)) vo vl nilS nilS (rowOf RB n))
  r : wr.rowIs RB 32 n (fun k => if k < d then RV k else nilS)
  o : ListAt wr vo (ownersTo m n (first m n))
  l : ListAt wr vl (localsTo m n (first m n))
  oo : Off vo (fun g => w.heap.size + 2 ≤ g ∧ g < RB)
  ol : Off vl (fun g => w.heap.size + 2 ≤ g ∧ g < RB)
  rt : ∀ k, k < d → ListAt wr (RV k) (rootsTo m par n (first m n) k)
  ro : ∀ k, k < d → Off (RV k) (fun g => RB < g)
  rb : w.heap.size + 2 ≤ RB

section
variable {w wr : World} {m : Nat → Nat} {par : Nat → Nat → Int} {n RB : Nat} {vo vl : Value} {RV : Nat → Value} {d : Nat}

theorem Ph2.kept {w1 : World} (h : Ph2 w wr m par n RB vo vl RV d) (hb : Below wr.heap.size wr w1) : Ph2 w w1 m par n RB vo vl RV d :=
  ⟨h.below.trans (hb.mono h.below.size), h.z.of_block (hb.block _ h.z.lt), h.b.of_block (hb.block _ h.b.lt), h.r.of_block (hb.block _ h.r.lt), h.o.below hb, h.l.below hb, h.oo, h.ol, fun k hk => (h.rt k hk).below hb, h.ro, h.rb⟩

theorem Ph2.start {V : Nat → Value} (h : Ph1 w wr m n (first m n) (first m n) V) :
    Ph2 w (((wr.setCell ⟨w.heap.size + 1, 0, none⟩ (.int .i64 (first m n : Int))).alloc (.cells (madeCells #[nilS] n) 32)).setCell ⟨w.heap.size + 1, 5, none⟩ (rowOf wr.heap.size n)) m par n wr.heap.size (V 0) (V 1) (fun _ => nilS) 0 := by
  have ht := h.top
  have hs : (wr.setCell ⟨w.heap.size + 1, 0, none⟩ (.int .i64 (first m n : Int))).heap.size = wr.heap.size := by simp [World.setCell]
  have l0 := h.ls.owns 0 (by omega)
  have l1 := h.ls.owns 1 (by omega)
  have hk : ∀ g, w.heap.size + 2 ≤ g → g < wr.heap.size → (((wr.setCell ⟨w.heap.size + 1, 0, none⟩ (.int .i64 (first m n : Int))).alloc (.cells (madeCells #[nilS] n) 32)).setCell ⟨w.heap.size + 1, 5, none⟩ (rowOf wr.heap.size n)).heap[g]? = wr.heap[g]? := fun g h1 h2 =>
    (Below.heap_setCell _ _ _ _ (by show g ≠ w.heap.size + 1; omega)).trans ((Below.heap_alloc _ _ _ (by omega)).trans (Below.heap_setCell _ _ _ _ (by show g ≠ w.heap.size + 1; omega)))
  refine ⟨((h.below.setCell (Nat.le_succ _) _).alloc (by omega) _).setCell (Nat.le_succ _) _, ((h.z.setOther (by show w.heap.size ≠ w.heap.size + 1; omega) _).alloc _).setOther (by show w.heap.size ≠ w.heap.size + 1; omega) _,
    World.rowIs.congr (((h.b.set 0 _).alloc _).set 5 _) (fun i hi => ?_), ?_, l0.listAt.kept (fun g e => ?_), l1.listAt.kept (fun g e => ?_), l0.off, l1.off, fun k hk => by omega, fun k hk => by omega, ht⟩
  · match i, hi with
    | 0, _ => rfl
    | 1, _ => rfl
    | 2, _ => rfl
    | 3, _ => rfl
    | 4, _ => rfl
    | 5, _ => rfl
  · have := World.rowIs_made (wr.setCell ⟨w.heap.size + 1, 0, none⟩ (.int .i64 (first m n : Int))) nilS n 32
    rw [hs] at this
    exact World.rowIs.setOther (this.congr (fun k _ => by simp)) (by show wr.heap.size ≠ w.heap.size + 1; omega) _
  · have := l0.off g e; exact hk g this.1 this.2
  · have := l1.off g e; exact hk g this.1 this.2

theorem Ph2.put (h : Ph2 w wr m par n RB vo vl RV d) {v : Value} (hv : ListAt wr v (rootsTo m par n (first m n) d)) (hov : Off v (fun g => RB < g)) :
    Ph2 w (wr.setCell ⟨RB, d, none⟩ v) m par n RB vo vl (fun k => if k = d then v else RV k) (d + 1) := by
  have hrb := h.rb
  have oth : ∀ {b : Nat} {t : TypeId} {c : Nat} {f : Nat → Value}, wr.rowIs b t c f → b ≠ RB → (wr.setCell ⟨RB, d, none⟩ v).rowIs b t c f := fun h h1 => h.setOther h1 _
  have hk : ∀ g, g ≠ RB → (wr.setCell ⟨RB, d, none⟩ v).heap[g]? = wr.heap[g]? := fun g h1 => Below.heap_setCell _ _ _ _ h1
  refine ⟨h.below.setCell (by show _ ≤ RB; omega) _, oth h.z (by omega), oth h.b (by omega), World.rowIs.congr (h.r.set d v) (fun k hk => ?_), h.o.kept (fun g e => hk g ?_), h.l.kept (fun g e => hk g ?_), h.oo, h.ol, fun k hk' => ?_, fun k hk' => ?_, h.rb⟩
  · by_cases e : k = d
    · subst e; simp
    · have : (k < d + 1) = (k < d) := by apply propext; omega
      simp [e, this]
  · have := h.oo g e; omega
  · have := h.ol g e; omega
  · by_cases e : k = d
    · subst e; simp only [if_true]; exact hv.kept (fun g e => hk g (by have := hov g e; omega))
    · simp only [if_neg e]; exact (h.rt k (by omega)).kept (fun g e' => hk g (by have := h.ro k (by omega) g e'; omega))
  · by_cases e : k = d
    · subst e; simp only [if_true]; exact hov
    · simp only [if_neg e]; exact h.ro k (by omega)

end

theorem rootsTo_yes {m : Nat → Nat} {par : Nat → Nat → Int} {n x d : Nat} (h : own m n x = d ∧ par d (loc m n x) < 0) : rootsTo m par n (x + 1) d = rootsTo m par n x d ++ [x] := by
  unfold rootsTo; rw [filter_succ]; simp [h]
theorem rootsTo_no {m : Nat → Nat} {par : Nat → Nat → Int} {n x d : Nat} (h : ¬ (own m n x = d ∧ par d (loc m n x) < 0)) : rootsTo m par n (x + 1) d = rootsTo m par n x d := by
  unfold rootsTo; rw [filter_succ]; simp only [decide_eq_true_eq, if_neg h, List.append_nil]
theorem rootsTo_length (m : Nat → Nat) (par : Nat → Nat → Int) (n x d : Nat) : (rootsTo m par n x d).length ≤ x := by
  unfold rootsTo
  have := List.length_filter_le (fun y => decide (own m n y = d ∧ par d (loc m n y) < 0)) (List.range x)
  simpa using this
theorem kidsTo_yes {m : Nat → Nat} {par : Nat → Nat → Int} {n x y : Nat} (h : own m n x = own m n y ∧ par (own m n y) (loc m n x) = (loc m n y : Int)) : kidsTo m par n (x + 1) y = kidsTo m par n x y ++ [x] := by
  unfold kidsTo; rw [filter_succ]; simp [h]
theorem kidsTo_no {m : Nat → Nat} {par : Nat → Nat → Int} {n x y : Nat} (h : ¬ (own m n x = own m n y ∧ par (own m n y) (loc m n x) = (loc m n y : Int))) : kidsTo m par n (x + 1) y = kidsTo m par n x y := by
  unfold kidsTo; rw [filter_succ]; simp only [decide_eq_true_eq, if_neg h, List.append_nil]
theorem kidsTo_length (m : Nat → Nat) (par : Nat → Nat → Int) (n x y : Nat) : (kidsTo m par n x y).length ≤ x := by
  unfold kidsTo
  have := List.length_filter_le (fun x => decide (own m n x = own m n y ∧ par (own m n y) (loc m n x) = (loc m n y : Int))) (List.range x)
  simpa using this

theorem ListAt.lt {w : World} {v : Value} {L : List Nat} (h : ListAt w v L) : Off v (fun g => g < w.heap.size) := by
  intro g e
  rcases h with ⟨_, hv⟩ | ⟨h0, g', cap, hv, hc⟩
  · rw [hv] at e; cases e
  · rw [hv] at e
    have : g' = g := by simpa [Value.ownBlock] using e
    subst this
    exact lt_of_cell (hc 0 (List.length_pos_iff.2 h0))

/-- What the selection x holds. -/
def heldList (m : Nat → Nat) (par : Nat → Nat → Int) (n : Nat) (fr : Nat → Option Nat) (x : Nat) : List Nat :=
  match fr x with
  | some d => rootsTo m par n (first m n) d
  | none => kidsTo m par n (first m n) x

/-- While what each selection holds is listed. -/
structure Ph3 (w wr : World) (m : Nat → Nat) (par : Nat → Nat → Int) (n RB FB HB : Nat) (vo vl : Value) (RV HV : Nat → Value) (fr : Nat → Option Nat) (ef eh : Nat) : Prop where
  below : Below w.heap.size w wr
  z : wr.rowIs w.heap.size 36 6 (mCells (.int .i64 0) nilS nilS nilS nilS nilS)
  b : wr.rowIs (w.heap.size + 1) 36 6 (mCells (.int .i64 (first m n : Int)) vo vl (rowOf FB (first m n)) (rowOf HB (first m n)) (rowOf RB n))
  r : wr.rowIs RB 32 n RV
  f : wr.rowIs FB 3 (first m n) (fragTo fr ef)
  h : wr.rowIs HB 32 (first m n) (fun y => if y < eh then HV y else nilS)
  o : ListAt wr vo (ownersTo m n (first m n))
  l : ListAt wr vl (localsTo m n (first m n))
  oo : Off vo (fun g => w.heap.size + 2 ≤ g ∧ g ≠ FB ∧ g ≠ HB)
  ol : Off vl (fun g => w.heap.size + 2 ≤ g ∧ g ≠ FB ∧ g ≠ HB)
  rt : ∀ k, k < n → ListAt wr (RV k) (rootsTo m par n (first m n) k)
  ro : ∀ k, k < n → Off (RV k) (fun g => w.heap.size + 2 ≤ g ∧ g ≠ FB ∧ g ≠ HB)
  ht : ∀ y, y < eh → ListAt wr (HV y) (heldList m par n fr y)
  ho : ∀ y, y < eh → Off (HV y) (fun g => w.heap.size + 2 ≤ g ∧ g ≠ FB ∧ g ≠ HB)
  rb : w.heap.size + 2 ≤ RB ∧ RB < FB ∧ FB < HB

section
variable {w wr : World} {m : Nat → Nat} {par : Nat → Nat → Int} {n RB FB HB : Nat} {vo vl : Value} {RV HV : Nat → Value} {fr : Nat → Option Nat} {ef eh : Nat}

theorem Ph3.kept {w1 : World} (h : Ph3 w wr m par n RB FB HB vo vl RV HV fr ef eh) (hb : Below wr.heap.size wr w1) : Ph3 w w1 m par n RB FB HB vo vl RV HV fr ef eh :=
  ⟨h.below.trans (hb.mono h.below.size), h.z.of_block (hb.block _ h.z.lt), h.b.of_block (hb.block _ h.b.lt), h.r.of_block (hb.block _ h.r.lt), h.f.of_block (hb.block _ h.f.lt), h.h.of_block (hb.block _ h.h.lt), h.o.below hb, h.l.below hb, h.oo, h.ol, fun k hk => (h.rt k hk).below hb, h.ro, fun k hk => (h.ht k hk).below hb, h.ho, h.rb⟩

theorem Ph3.start (h : Ph2 w wr m par n RB vo vl RV n) (fr : Nat → Option Nat) :
    Ph3 w ((((wr.alloc (.cells (madeCells #[.int .i64 0] (first m n)) 3)).setCell ⟨w.heap.size + 1, 3, none⟩ (rowOf wr.heap.size (first m n))).alloc (.cells (madeCells #[nilS] (first m n)) 32)).setCell ⟨w.heap.size + 1, 4, none⟩ (rowOf (wr.heap.size + 1) (first m n)))
      m par n RB wr.heap.size (wr.heap.size + 1) vo vl RV (fun _ => nilS) fr 0 0 := by
  have hrb := h.rb
  have hrl := h.r.lt
  have hbl := h.b.lt
  have hs1 : ((wr.alloc (.cells (madeCells #[.int .i64 0] (first m n)) 3)).setCell ⟨w.heap.size + 1, 3, none⟩ (rowOf wr.heap.size (first m n))).heap.size = wr.heap.size + 1 := by simp [World.setCell]
  have hk : ∀ g, g < wr.heap.size → g ≠ w.heap.size + 1 → ((((wr.alloc (.cells (madeCells #[.int .i64 0] (first m n)) 3)).setCell ⟨w.heap.size + 1, 3, none⟩ (rowOf wr.heap.size (first m n))).alloc (.cells (madeCells #[nilS] (first m n)) 32)).setCell ⟨w.heap.size + 1, 4, none⟩ (rowOf (wr.heap.size + 1) (first m n))).heap[g]? = wr.heap[g]? := fun g h1 h2 =>
    (Below.heap_setCell _ _ _ _ h2).trans ((Below.heap_alloc _ _ _ (by omega)).trans ((Below.heap_setCell _ _ _ _ h2).trans (Below.heap_alloc _ _ _ h1)))
  have oth : ∀ {b : Nat} {t : TypeId} {c : Nat} {f : Nat → Value}, wr.rowIs b t c f → b ≠ w.heap.size + 1 → ((((wr.alloc (.cells (madeCells #[.int .i64 0] (first m n)) 3)).setCell ⟨w.heap.size + 1, 3, none⟩ (rowOf wr.heap.size (first m n))).alloc (.cells (madeCells #[nilS] (first m n)) 32)).setCell ⟨w.heap.size + 1, 4, none⟩ (rowOf (wr.heap.size + 1) (first m n))).rowIs b t c f := fun h h1 => h.of_block (hk _ h.lt h1)
  have hof : ∀ {v : Value} {L : List Nat}, ListAt wr v L → Off v (fun g => w.heap.size + 2 ≤ g) → Off v (fun g => w.heap.size + 2 ≤ g ∧ g ≠ wr.heap.size ∧ g ≠ wr.heap.size + 1) := fun hl ho g e => by
    have h1 := hl.lt g e
    have h2 := ho g e
    refine ⟨h2, ?_, ?_⟩ <;> omega
  have hli : ∀ {v : Value} {L : List Nat}, ListAt wr v L → Off v (fun g => w.heap.size + 2 ≤ g) → ListAt ((((wr.alloc (.cells (madeCells #[.int .i64 0] (first m n)) 3)).setCell ⟨w.heap.size + 1, 3, none⟩ (rowOf wr.heap.size (first m n))).alloc (.cells (madeCells #[nilS] (first m n)) 32)).setCell ⟨w.heap.size + 1, 4, none⟩ (rowOf (wr.heap.size + 1) (first m n))) v L := fun hl ho =>
    hl.kept (fun g e => hk g (hl.lt g e) (by have := ho g e; omega))
  refine ⟨(((h.below.alloc h.below.size _).setCell (Nat.le_succ _) _).alloc (by omega) _).setCell (Nat.le_succ _) _, oth h.z (by omega), World.rowIs.congr ((((h.b.alloc _).set 3 _).alloc _).set 4 _) (fun i hi => ?_), (oth h.r (by omega)).congr (fun k hk' => by rw [if_pos hk']), ?_, ?_,
    hli h.o (fun g e => (h.oo g e).1), hli h.l (fun g e => (h.ol g e).1), hof h.o (fun g e => (h.oo g e).1), hof h.l (fun g e => (h.ol g e).1), fun k hk' => hli (h.rt k hk') (fun g e => ?_), fun k hk' => hof (h.rt k hk') (fun g e => ?_), fun y hy => by omega, fun y hy => by omega, by omega⟩
  · match i, hi with
    | 0, _ => rfl
    | 1, _ => rfl
    | 2, _ => rfl
    | 3, _ => rfl
    | 4, _ => rfl
    | 5, _ => rfl
  · refine World.rowIs.setOther (World.rowIs.alloc (World.rowIs.setOther ((World.rowIs_made wr (.int .i64 0) (first m n) 3).congr (fun y _ => by simp [fragTo])) (by show wr.heap.size ≠ w.heap.size + 1; omega) _) _) (by show wr.heap.size ≠ w.heap.size + 1; omega) _
  · have := World.rowIs_made ((wr.alloc (.cells (madeCells #[.int .i64 0] (first m n)) 3)).setCell ⟨w.heap.size + 1, 3, none⟩ (rowOf wr.heap.size (first m n))) nilS (first m n) 32
    rw [hs1] at this
    exact World.rowIs.setOther (this.congr (fun y _ => by simp)) (by show wr.heap.size + 1 ≠ w.heap.size + 1; omega) _
  · have := h.ro k hk' g e; show w.heap.size + 2 ≤ g; omega
  · have := h.ro k hk' g e; show w.heap.size + 2 ≤ g; omega

theorem Ph3.frag {e : Nat} (h : Ph3 w wr m par n RB FB HB vo vl RV HV fr e e) : Ph3 w (wr.setCell ⟨FB, e, none⟩ (.int .i64 (fragVal (fr e)))) m par n RB FB HB vo vl RV HV fr (e + 1) e := by
  have hrb := h.rb
  have oth : ∀ {b : Nat} {t : TypeId} {c : Nat} {f : Nat → Value}, wr.rowIs b t c f → b ≠ FB → (wr.setCell ⟨FB, e, none⟩ (.int .i64 (fragVal (fr e)))).rowIs b t c f := fun h h1 => h.setOther h1 _
  have hli : ∀ {v : Value} {L : List Nat}, ListAt wr v L → Off v (fun g => w.heap.size + 2 ≤ g ∧ g ≠ FB ∧ g ≠ HB) → ListAt (wr.setCell ⟨FB, e, none⟩ (.int .i64 (fragVal (fr e)))) v L := fun hl ho =>
    hl.kept (fun g e' => Below.heap_setCell _ _ _ _ (ho g e').2.1)
  refine ⟨h.below.setCell (by show _ ≤ FB; omega) _, oth h.z (by omega), oth h.b (by omega), oth h.r (by omega), World.rowIs.congr (h.f.set e _) (fun y hy => ?_), oth h.h (by omega), hli h.o h.oo, hli h.l h.ol, h.oo, h.ol, fun k hk => hli (h.rt k hk) (h.ro k hk), h.ro, fun y hy => hli (h.ht y hy) (h.ho y hy), h.ho, h.rb⟩
  by_cases e1 : y = e
  · subst e1; simp [fragTo]
  · have : (y < e + 1) = (y < e) := by apply propext; omega
    simp [fragTo, this, e1]

theorem Ph3.held {e : Nat} (h : Ph3 w wr m par n RB FB HB vo vl RV HV fr (e + 1) e) {v : Value} (hv : ListAt wr v (heldList m par n fr e)) (hov : Off v (fun g => w.heap.size + 2 ≤ g ∧ g ≠ FB ∧ g ≠ HB)) :
    Ph3 w (wr.setCell ⟨HB, e, none⟩ v) m par n RB FB HB vo vl RV (fun y => if y = e then v else HV y) fr (e + 1) (e + 1) := by
  have hrb := h.rb
  have oth : ∀ {b : Nat} {t : TypeId} {c : Nat} {f : Nat → Value}, wr.rowIs b t c f → b ≠ HB → (wr.setCell ⟨HB, e, none⟩ v).rowIs b t c f := fun h h1 => h.setOther h1 _
  have hli : ∀ {u : Value} {L : List Nat}, ListAt wr u L → Off u (fun g => w.heap.size + 2 ≤ g ∧ g ≠ FB ∧ g ≠ HB) → ListAt (wr.setCell ⟨HB, e, none⟩ v) u L := fun hl ho =>
    hl.kept (fun g e' => Below.heap_setCell _ _ _ _ (ho g e').2.2)
  refine ⟨h.below.setCell (by show _ ≤ HB; omega) _, oth h.z (by omega), oth h.b (by omega), oth h.r (by omega), oth h.f (by omega), World.rowIs.congr (h.h.set e v) (fun y hy => ?_), hli h.o h.oo, hli h.l h.ol, h.oo, h.ol, fun k hk => hli (h.rt k hk) (h.ro k hk), h.ro, fun y hy => ?_, fun y hy => ?_, h.rb⟩
  · by_cases e1 : y = e
    · subst e1; simp
    · have : (y < e + 1) = (y < e) := by apply propext; omega
      simp [this, e1]
  · by_cases e1 : y = e
    · subst e1; simp only [if_true]; exact hli hv hov
    · simp only [if_neg e1]; exact hli (h.ht y (by omega)) (h.ho y (by omega))
  · by_cases e1 : y = e
    · subst e1; simp only [if_true]; exact hov
    · simp only [if_neg e1]; exact h.ho y (by omega)

/-- The model as it is handed back. -/
structure ModelAt (wr : World) (m : Nat → Nat) (par : Nat → Nat → Int) (n RB FB HB : Nat) (vo vl : Value) (RV HV : Nat → Value) (fr : Nat → Option Nat) : Prop where
  o : ListAt wr vo (ownersTo m n (first m n))
  l : ListAt wr vl (localsTo m n (first m n))
  f : ∀ x, x < first m n → wr.cell? ⟨FB, x, none⟩ = some (.int .i64 (fragVal (fr x)))
  heldAt : ∀ x, x < first m n → wr.cell? ⟨HB, x, none⟩ = some (HV x)
  held : ∀ x, x < first m n → ListAt wr (HV x) (heldList m par n fr x)
  rootAt : ∀ k, k < n → wr.cell? ⟨RB, k, none⟩ = some (RV k)
  roots : ∀ k, k < n → ListAt wr (RV k) (rootsTo m par n (first m n) k)

theorem ModelAt.below {w1 : World} (h : ModelAt wr m par n RB FB HB vo vl RV HV fr) (hb : Below wr.heap.size wr w1) : ModelAt w1 m par n RB FB HB vo vl RV HV fr := by
  have hc : ∀ {a : Addr} {v : Value}, wr.cell? a = some v → w1.cell? a = some v := fun h => (hb.cell (lt_of_cell h)).trans h
  exact ⟨h.o.below hb, h.l.below hb, fun x hx => hc (h.f x hx), fun x hx => hc (h.heldAt x hx), fun x hx => (h.held x hx).below hb, fun x hx => hc (h.rootAt x hx), fun x hx => (h.roots x hx).below hb⟩

theorem Ph3.ended (h : Ph3 w wr m par n RB FB HB vo vl RV HV fr (first m n) (first m n)) {va vb vc vd ve vf : Value} :
    let wz := (((((wr.setCell ⟨w.heap.size, 0, none⟩ vc).setCell ⟨w.heap.size, 1, none⟩ va).setCell ⟨w.heap.size, 2, none⟩ vb).setCell ⟨w.heap.size, 3, none⟩ vd).setCell ⟨w.heap.size, 4, none⟩ ve).setCell ⟨w.heap.size, 5, none⟩ vf
    wz.rowIs w.heap.size 36 6 (mCells vc va vb vd ve vf) ∧ ModelAt wz m par n RB FB HB vo vl RV HV fr ∧ Below w.heap.size w wz := by
  intro wz
  have hrb := h.rb
  have hk : ∀ g, g ≠ w.heap.size → wz.heap[g]? = wr.heap[g]? := fun g hg =>
    (Below.heap_setCell _ _ _ _ hg).trans ((Below.heap_setCell _ _ _ _ hg).trans ((Below.heap_setCell _ _ _ _ hg).trans ((Below.heap_setCell _ _ _ _ hg).trans ((Below.heap_setCell _ _ _ _ hg).trans (Below.heap_setCell _ _ _ _ hg)))))
  have hli : ∀ {v : Value} {L : List Nat}, ListAt wr v L → Off v (fun g => w.heap.size + 2 ≤ g ∧ g ≠ FB ∧ g ≠ HB) → ListAt wz v L := fun hl ho => hl.kept (fun g e => hk g (by have := (ho g e).1; omega))
  refine ⟨World.rowIs.congr ((((((h.z.set 0 _).set 1 _).set 2 _).set 3 _).set 4 _).set 5 _) (fun i hi => ?_), ⟨hli h.o h.oo, hli h.l h.ol, fun x hx => ?_, fun x hx => ?_, fun x hx => hli (h.ht x hx) (h.ho x hx), fun k hk' => ?_, fun k hk' => hli (h.rt k hk') (h.ro k hk')⟩,
    (((((h.below.setCell (Nat.le_refl _) _).setCell (Nat.le_refl _) _).setCell (Nat.le_refl _) _).setCell (Nat.le_refl _) _).setCell (Nat.le_refl _) _).setCell (Nat.le_refl _) _⟩
  · match i, hi with
    | 0, _ => rfl
    | 1, _ => rfl
    | 2, _ => rfl
    | 3, _ => rfl
    | 4, _ => rfl
    | 5, _ => rfl
  · rw [World.cell?_of_block (w := wr) (a := ⟨FB, x, none⟩) (hk FB (by omega)), h.f.cell hx]; simp only [fragTo, if_pos hx]
  · rw [World.cell?_of_block (w := wr) (a := ⟨HB, x, none⟩) (hk HB (by omega)), h.h.cell hx]; simp only [if_pos hx]
  · rw [World.cell?_of_block (w := wr) (a := ⟨RB, k, none⟩) (hk RB (by omega)), h.r.cell hk']

end

end Go.Proofs.Qxb6602394a.T
