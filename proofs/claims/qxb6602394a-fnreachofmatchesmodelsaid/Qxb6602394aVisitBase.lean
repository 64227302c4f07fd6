/-
  b1VisitReach: what lies in memory, and what holds at each turn.
-/
import Derived.Test.Qxb6602394aLoopBase
namespace Go.Proofs.Qxb6602394a.T
open Go.RowKit
set_option linter.unusedVariables false

section
variable {w wr w' : World} {ty : TypeId} {lo RB EB : Nat} {eo eo' : Obj} {v0 v1 : Value} {hd hd' : Int} {V0 V1 VS U0 U1 : Value} {L0 L1 M0 M1 : List Nat} {xs : List Value}

/-- The memory as it stands, taken as the start of a call. -/
theorem Mem.self (h : Mem w wr ty lo RB EB eo v0 v1 hd V0 V1 VS L0 L1 xs) : Mem wr wr ty lo RB EB eo V0 V1 hd V0 V1 nilS L0 L1 [] := by
  obtain ⟨l1, l2, l3, l4⟩ := h.l
  refine ⟨rfl, rfl, rfl, Nat.le_refl _, fun _ _ _ _ _ _ => rfl, ⟨Nat.le_trans l1 h.size, l2, l3, l4⟩, fun g e => ?_, h.r, h.ent, h.o0, h.o1, World.ownsRow_nil _ _ _ _, h.a01, fun g _ e => (by cases e), fun g _ e => (by cases e), fun g e => ⟨(h.n0 g e).1, (h.n0 g e).2.1, .inl e⟩, fun g e => ⟨(h.n1 g e).1, (h.n1 g e).2.1, .inl e⟩, fun g e => (by cases e)⟩
  rcases e with e | e
  · exact (h.o0.1.lt g e).1
  · exact (h.o1.1.lt g e).1

/-- A call within a call. -/
theorem Mem.trans (h : Mem w wr ty lo RB EB eo v0 v1 hd V0 V1 VS L0 L1 xs) (k : Mem wr w' ty lo RB EB eo' V0 V1 hd' U0 U1 nilS M0 M1 []) : Mem w w' ty lo RB EB eo' v0 v1 hd' U0 U1 VS M0 M1 xs := by
  have hs := h.size
  have hb : ∀ g, VS.ownBlock = some g → w'.heap[g]? = wr.heap[g]? := fun g e => k.ch g (h.st.lt g e).2 (h.ns g e).1 (h.ns g e).2.1 (fun e' => h.a0s g e' e) (fun e' => h.a1s g e' e)
  refine ⟨k.os.trans h.os, k.tape.trans h.tape, k.output.trans h.output, Nat.le_trans h.size k.size, fun g h1 h2 h3 h4 h5 => (k.ch g (Nat.lt_of_lt_of_le h1 h.size) h2 h3 (fun e => ?_) (fun e => ?_)).trans (h.ch g h1 h2 h3 h4 h5), h.l, h.lv, k.r, k.ent, k.o0, k.o1, ownsRow_keptAt h.st hb, k.a01, fun g e e' => ?_, fun g e e' => ?_, fun g e => ⟨(k.n0 g e).1, (k.n0 g e).2.1, ?_⟩, fun g e => ⟨(k.n1 g e).1, (k.n1 g e).2.1, ?_⟩, h.ns⟩
  · rcases (h.n0 g e).2.2 with e2 | e2
    · exact h4 e2
    · omega
  · rcases (h.n1 g e).2.2 with e2 | e2
    · exact h5 e2
    · omega
  · rcases (k.n0 g e).2.2 with e2 | e2
    · exact h.a0s g e2 e'
    · have := (h.st.lt g e').2; omega
  · rcases (k.n1 g e).2.2 with e2 | e2
    · exact h.a1s g e2 e'
    · have := (h.st.lt g e').2; omega
  · rcases (k.n0 g e).2.2 with e2 | e2
    · exact (h.n0 g e2).2.2
    · exact .inr (by omega)
  · rcases (k.n1 g e).2.2 with e2 | e2
    · exact (h.n1 g e2).2.2
    · exact .inr (by omega)

/-- The stack is let go. -/
theorem Mem.drop (h : Mem w wr ty lo RB EB eo v0 v1 hd V0 V1 VS L0 L1 xs) : Mem w wr ty lo RB EB eo v0 v1 hd V0 V1 nilS L0 L1 [] :=
  ⟨h.os, h.tape, h.output, h.size, h.ch, h.l, h.lv, h.r, h.ent, h.o0, h.o1, World.ownsRow_nil _ _ _ _, h.a01, fun g _ e => (by cases e), fun g _ e => (by cases e), h.n0, h.n1, fun g e => (by cases e)⟩

/-- A slot is entered in a row of bools at EB. -/
theorem Mem.setE (h : Mem w wr ty lo RB EB eo v0 v1 hd V0 V1 VS L0 L1 xs) {n : Nat} {f : Nat → Value} (he : wr.rowIs EB 4 n f) (d : Nat) (u : Value) :
    ∃ eo', Mem w (wr.setCell ⟨EB, d, none⟩ u) ty lo RB EB eo' v0 v1 hd V0 V1 VS L0 L1 xs ∧ (wr.setCell ⟨EB, d, none⟩ u).rowIs EB 4 n (fun j => if j = d then u else f j) := by
  have hrow := he.set d u
  have hlt := hrow.lt
  exact ⟨_, h.entered (grownBy_setCell wr ⟨EB, d, none⟩ u) (Array.getElem?_eq_getElem hlt), hrow⟩

end

/-- What b1VisitReach reads: the model, the keys, the fragments. -/
structure Env (wE : World) (MB n : Nat) (m : Nat → Nat) (par : Nat → Nat → Int) (ky fg : Nat → Nat → ByteArray) (fr : Nat → Option Nat) (ao al : Option Addr) (co cl MF MH MR : Nat) (HV RV : Nat → Value) (b3 : Option Addr) (B3 : Nat → Option Addr) (D3 : Nat → Nat) (b4 : Option Addr) (B4 : Nat → Option Addr) (D4 : Nat → Nat) : Prop where
  row : wE.rowIs MB 36 6 (mCells (.int .i64 (first m n : Int)) (.slice ao (first m n) co) (.slice al (first m n) cl) (rowOf MF (first m n)) (rowOf MH (first m n)) (rowOf MR n))
  model : ModelAt wE m par n MR MF MH (.slice ao (first m n) co) (.slice al (first m n) cl) RV HV fr
  k : RowsAt wE b3 n B3 m D3 (fun i j => .string (ky i j))
  g : RowsAt wE b4 n B4 m D4 (fun i j => .string (fg i j))

theorem Env.below {wE w' : World} {MB n : Nat} {m : Nat → Nat} {par : Nat → Nat → Int} {ky fg : Nat → Nat → ByteArray} {fr : Nat → Option Nat} {ao al : Option Addr} {co cl MF MH MR : Nat} {HV RV : Nat → Value} {b3 : Option Addr} {B3 : Nat → Option Addr} {D3 : Nat → Nat} {b4 : Option Addr} {B4 : Nat → Option Addr} {D4 : Nat → Nat}
    (h : Env wE MB n m par ky fg fr ao al co cl MF MH MR HV RV b3 B3 D3 b4 B4 D4) (hb : Below wE.heap.size wE w') : Env w' MB n m par ky fg fr ao al co cl MF MH MR HV RV b3 B3 D3 b4 B4 D4 :=
  ⟨h.row.of_block (hb.block _ h.row.lt), h.model.below hb, h.k.below hb, h.g.below hb⟩

section
variable {n : Nat} {isF sp : Nat → Bool} {fr : Nat → Option Nat} {hl : Nat → List Nat} {x : Nat} {r : List Nat} {T : List (List Nat)} {st fin : St} {k : Nat}

theorem Goes.isinline (h : Goes n isF sp fr hl (x :: r) T st fin k) (hF : isF x = false) (hs : sp x = false) : ∃ k', k = k' + 1 ∧ Goes n isF sp fr hl r (hl x :: T) (takeH hl x st) fin k' := by
  obtain ⟨k0, rfl, h⟩ := h.taken
  rcases h with ⟨e, h⟩ | ⟨_, e, h⟩ | ⟨_, e, e2, h⟩ | ⟨_, e, e2, h⟩
  · rw [hF] at e; cases e
  · exact ⟨_, rfl, h⟩
  · rw [hs] at e; cases e
  · rw [hs] at e; cases e

theorem Goes.isagain (h : Goes n isF sp fr hl (x :: r) T st fin k) (hF : isF x = false) (hs : sp x = true) (he : st.ent (slotOf fr n x) = true) : ∃ k', k = k' + 1 ∧ Goes n isF sp fr hl r T (takeH hl x st) fin k' := by
  obtain ⟨k0, rfl, h⟩ := h.taken
  rcases h with ⟨e, h⟩ | ⟨_, e, h⟩ | ⟨_, e, e2, h⟩ | ⟨_, e, e2, h⟩
  · rw [hF] at e; cases e
  · rw [hs] at e; cases e
  · exact ⟨_, rfl, h⟩
  · rw [he] at e2; cases e2

theorem Goes.isanew (h : Goes n isF sp fr hl (x :: r) T st fin k) (hF : isF x = false) (hs : sp x = true) (he : st.ent (slotOf fr n x) = false) : ∃ k', k = k' + 1 ∧ Goes n isF sp fr hl r (hl x :: T) (enter (slotOf fr n x) (takeH hl x st)) fin k' := by
  obtain ⟨k0, rfl, h⟩ := h.taken
  rcases h with ⟨e, h⟩ | ⟨_, e, h⟩ | ⟨_, e, e2, h⟩ | ⟨_, e, e2, h⟩
  · rw [hF] at e; cases e
  · rw [hs] at e; cases e
  · rw [he] at e2; cases e2
  · exact ⟨_, rfl, h⟩

end

/-- At each turn of the first loop: the rest of the set, the sets found (the last first). -/
structure Turn (wE w wr : World) (n N : Nat) (isF sp : Nat → Bool) (fr : Nat → Option Nat) (hl : Nat → List Nat) (RB EB : Nat) (v0 v1 : Value) (fin : St) (VS : Value) (r : List Nat) (kk : Nat) (Z : List (Value × List Nat)) (st : St) (V0 V1 : Value) (eo : Obj) : Prop where
  goes : Goes n isF sp fr hl r (Z.map (·.2)) st fin kk
  mem : Mem w wr 45 wE.heap.size RB EB eo v0 v1 (st.held : Int) V0 V1 VS st.fields st.ws (Z.map (·.1)).reverse
  ent : wr.rowIs EB 4 (n + 1) (fun d => .bool (st.ent d))
  sets : ∀ p, p ∈ Z → ListAt wE p.1 p.2 ∧ ∀ y, y ∈ p.2 → y < N
  form : (VS = nilS ∧ Z = []) ∨ ∃ g cap, VS = .slice (some ⟨g, 0, none⟩) Z.length cap

/-- What is handed to b1VisitReach, and what it leaves. -/
def Before (lo : Nat) (w : World) (n RB EB : Nat) (V0 V1 : Value) (st : St) : Prop := ∃ eo, Mem w w 45 lo RB EB eo V0 V1 (st.held : Int) V0 V1 nilS st.fields st.ws [] ∧ w.rowIs EB 4 (n + 1) (fun d => .bool (st.ent d))
def After (lo : Nat) (w w' : World) (n RB EB : Nat) (v0 v1 : Value) (st : St) : Prop := ∃ eo V0 V1, Mem w w' 45 lo RB EB eo v0 v1 (st.held : Int) V0 V1 nilS st.fields st.ws [] ∧ w'.rowIs EB 4 (n + 1) (fun d => .bool (st.ent d))

end Go.Proofs.Qxb6602394a.T
