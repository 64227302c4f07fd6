/-
  newSelectionTree's last loops: what each spread holds; and the tree as it stands at the end.
-/
import Derived.Test.Qxb6602394aDone
import Derived.LaidEqlPtr
namespace Go.Proofs.Qxb6602394a.T
open Go.RowKit
set_option linter.unusedVariables false

theorem eql_def_same (b : Nat) (w : World) : (binOp .eql 87 (.pointer (some ⟨b, 0, none⟩)) (.pointer (some ⟨b, 0, none⟩))).run Try.prog w = .ok (.bool true) w := by
  obtain ⟨j, hj⟩ : ∃ j, Try.prog.info? 93 = some j := Option.isSome_iff_exists.1 (by kernel_rfl)
  exact run_eql_ptr_same w _ Try.underlying87 hj

theorem eql_def_other {b d : Nat} (w : World) (hne : b ≠ d) (hb : ∃ cs t, w.heap[b]? = some (.cells cs t (0, 0))) (hd : ∃ cs t, w.heap[d]? = some (.cells cs t (0, 0))) :
    (binOp .eql 87 (.pointer (some ⟨b, 0, none⟩)) (.pointer (some ⟨d, 0, none⟩))).run Try.prog w = .ok (.bool false) w := by
  obtain ⟨c1, t1, h1⟩ := hb
  obtain ⟨c2, t2, h2⟩ := hd
  have hi : (Try.prog.info? 93).map (fun i => decide (i.size = 0)) = some false := by kernel_rfl
  obtain ⟨j, hj, hz⟩ := Option.map_eq_some_iff.1 hi
  exact run_eql_ptr_other w Try.underlying87 hj (by simpa using hz) (by intro e; injection e with e; exact hne e) h1 h2

/-- The fragment that the selection x spreads: the first of its name, if it names one. -/
def spreadOf (fb : Nat → Bool) (nm : Nat → ByteArray) (m : Nat → Nat) (fg : Nat → Nat → ByteArray) (n x : Nat) : Option Nat :=
  if (fg (own m n x) (loc m n x)).toList.isEmpty then none else fragIx fb nm n (fg (own m n x) (loc m n x))

def heldTo (V : Nat → Value) (n : Nat) (fr : Nat → Option Nat) (c y : Nat) : Value :=
  if y < c then (match fr y with | some d => V d | none => V (n + y)) else V (n + y)

def fragVal (o : Option Nat) : Int := match o with | some d => (d : Int) | none => -1
def fragTo (fr : Nat → Option Nat) (c y : Nat) : Value := .int .i64 (if y < c then fragVal (fr y) else 0)

structure Ended (w w0 wr : World) (A n all K Sp H base FB : Nat) (m : Nat → Nat) (kx : Nat → ByteArray) (sx : Nat → Bool) (V : Nat → Value) (fr : Nat → Option Nat) (c : Nat) : Prop where
  d : Done w w0 wr A n all K Sp H base (.slice (some ⟨FB, 0, none⟩) all all) m kx sx V (heldTo V n fr c)
  g : wr.rowIs FB 3 all (fragTo fr c)
  lo : w0.heap.size ≤ FB

section
variable {w w0 wr : World} {A n all K Sp H base FB : Nat} {m : Nat → Nat} {kx : Nat → ByteArray} {sx : Nat → Bool} {V : Nat → Value} {fr : Nat → Option Nat} {c : Nat}

theorem Ended.kept {w1 : World} (h : Ended w w0 wr A n all K Sp H base FB m kx sx V fr c) (hb : Below wr.heap.size wr w1) : Ended w w0 w1 A n all K Sp H base FB m kx sx V fr c :=
  ⟨h.d.kept (hb.mono h.d.top), h.g.of_block (hb.block _ h.g.lt), h.lo⟩

theorem Ended.alloc (h : Ended w w0 wr A n all K Sp H base FB m kx sx V fr c) (o : Obj) : Ended w w0 (wr.alloc o) A n all K Sp H base FB m kx sx V fr c := h.kept ((Below.refl _ _).alloc (Nat.le_refl _) _)
theorem Ended.drew (h : Ended w w0 wr A n all K Sp H base FB m kx sx V fr c) : Ended w w0 wr.drew A n all K Sp H base FB m kx sx V fr c := h.kept (Below.refl _ _).drew

theorem Ended.start (h : Done w w0 wr A n all K Sp H base (.slice none 0 0) m kx sx V (fun y => V (n + y))) (fr : Nat → Option Nat) :
    Ended w w0 ((wr.alloc (.cells (madeCells #[.int .i64 0] all) 3)).setCell ⟨w.heap.size + 1, 3, none⟩ (.slice (some ⟨wr.heap.size, 0, none⟩) all all)) A n all K Sp H base wr.heap.size m kx sx V fr 0 := by
  obtain ⟨l1, l2, l3, l4, l5, l6, l7, l8, l9, l10⟩ := h.lk
  have ht := h.top
  refine ⟨((h.alloc _).setT _).congr (fun y hy => by simp [heldTo]), ?_, ht⟩
  refine World.rowIs.setOther ((World.rowIs_made wr (.int .i64 0) all 3).congr (fun y hy => by simp [fragTo])) (by show wr.heap.size ≠ w.heap.size + 1; omega) _

theorem Ended.lone (h : Ended w w0 wr A n all K Sp H base FB m kx sx V fr c) (hf : fr c = none) : Ended w w0 (wr.setCell ⟨FB, c, none⟩ (.int .i64 (-1))) A n all K Sp H base FB m kx sx V fr (c + 1) := by
  refine ⟨(h.d.new h.lo _).congr (fun y hy => ?_), (h.g.set c _).congr (fun y hy => ?_), h.lo⟩
  · by_cases e : y = c
    · subst e; simp [heldTo, hf]
    · have : (y < c + 1) = (y < c) := by apply propext; omega
      simp [heldTo, this]
  · by_cases e : y = c
    · subst e; simp [fragTo, hf, fragVal]
    · have : (y < c + 1) = (y < c) := by apply propext; omega
      simp [fragTo, this, e]

theorem Ended.spread {d : Nat} (h : Ended w w0 wr A n all K Sp H base FB m kx sx V fr c) (hf : fr c = some d) :
    Ended w w0 (((wr.setCell ⟨FB, c, none⟩ (.int .i64 (-1))).setCell ⟨FB, c, none⟩ (.int .i64 (d : Int))).setCell ⟨H, c, none⟩ (V d)) A n all K Sp H base FB m kx sx V fr (c + 1) := by
  obtain ⟨l1, l2, l3, l4, l5, l6, l7, l8, l9, l10⟩ := h.d.lk
  have hlo := h.lo
  refine ⟨(((h.d.new h.lo _).new h.lo _).setH c _).congr (fun y hy => ?_), World.rowIs.setOther (((h.g.set c _).set c _).congr (fun y hy => ?_)) (by show FB ≠ H; omega) _, h.lo⟩
  · by_cases e : y = c
    · subst e; simp [heldTo, hf]
    · have : (y < c + 1) = (y < c) := by apply propext; omega
      simp [heldTo, this, e]
  · by_cases e : y = c
    · subst e; simp [fragTo, hf, fragVal]
    · have : (y < c + 1) = (y < c) := by apply propext; omega
      simp [fragTo, this, e]

end

/-- The tree of a document as newSelectionTree leaves it. -/
def TreeAt (w w' : World) (A n : Nat) (fb : Nat → Bool) (nm : Nat → ByteArray) (m : Nat → Nat) (par : Nat → Nat → Int) (ky fg : Nat → Nat → ByteArray) : Prop :=
  ∃ (K Sp H FB base : Nat) (w0 : World) (V : Nat → Value), Ended w w0 w' A n (first m n) K Sp H base FB m (fun x => ky (own m n x) (loc m n x)) (fun x => !(fg (own m n x) (loc m n x)).toList.isEmpty) V (spreadOf fb nm m fg n) (first m n) ∧
    Lists w0 base (n + first m n) V (listsTo m par n (first m n))

end Go.Proofs.Qxb6602394a.T
