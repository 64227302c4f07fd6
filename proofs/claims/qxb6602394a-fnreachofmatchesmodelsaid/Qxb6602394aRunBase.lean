/-
  reachOf: what lies in memory while a group is gone through.
-/
import Derived.Test.Qxb6602394aReachDoc
import Derived.Test.Qxb6602394aMaps
namespace Go.Proofs.Qxb6602394a.T
open Go.RowKit Go.Maps Go.WideMaps
set_option linter.unusedVariables false

/-- A map keyed by ints: what it holds at an int. -/
def byI64 (G : Int → Option Value) : Lit → Option Value
  | .int .i64 n => G n
  | _ => none

section
variable {P : Program} {w : World} {k t e : TypeId} {b n : Nat} {G : Int → Option Value}

theorem MapIs.lookI (h : MapIs P w k b n (byI64 G)) (hk : P.underlying k = some (.int .i64)) (ht : P.underlying t = some (.map k e)) {z : Value} (hz : (zeroValue e).run P w = .ok z w) {x : Int} (hx : (Lit.int .i64 x).wf = true) :
    (Instr.lookup t (.map (some b)) (.int .i64 x) false).run P w = .ok ((G x).getD z) w :=
  h.look (int_keyed hk) ht hz (keyOf_int_mk hk hx)

theorem MapIs.lookI_ok (h : MapIs P w k b n (byI64 G)) (hk : P.underlying k = some (.int .i64)) (ht : P.underlying t = some (.map k e)) {z : Value} (hz : (zeroValue e).run P w = .ok z w) {x : Int} (hx : (Lit.int .i64 x).wf = true) :
    (Instr.lookup t (.map (some b)) (.int .i64 x) true).run P w = .ok (.tuple #[(G x).getD z, .bool (G x).isSome]) w :=
  h.look_ok (int_keyed hk) ht hz (keyOf_int_mk hk hx)

theorem MapIs.storeI (h : MapIs P w k b n (byI64 G)) (hk : P.underlying k = some (.int .i64)) (ht : P.underlying t = some (.map k e)) (hn : n < maxLen) {x : Int} (hx : (Lit.int .i64 x).wf = true) (val : Value) :
    ∃ w', (Instr.mapUpdate t (.map (some b)) (.int .i64 x) val).run P w = .ok () w' ∧ MapIs P w' k b (n + 1) (byI64 fun y => if y = x then some val else G y) ∧ w.grownBy w' (some b) := by
  obtain ⟨w', hrun, hF, hg⟩ := h.store (int_keyed hk) ht hn (keyOf_int_mk hk hx) val
  refine ⟨w', hrun, hF _ (by simp [byI64]) (fun kl' hne => ?_), hg⟩
  unfold byI64
  split
  · rename_i y
    have : ¬ y = x := fun e => hne (by rw [e])
    simp only [if_neg this]
  · rfl

end

theorem wf_i64 {x : Int} (h1 : -9223372036854775808 ≤ x) (h2 : x ≤ 9223372036854775807) : (Lit.int .i64 x).wf = true := by
  have e1 : IntKind.i64.min = -9223372036854775808 := by decide
  have e2 : IntKind.i64.max = 9223372036854775807 := by decide
  simp [Lit.wf, e1, h1, h2]

/-- 'append' of one number onto a list that the call owns (a longer list than 'wpList_app' takes). -/
theorem wpList_appN {ops : Array Oper} {rest : List Oper} {o : Oper} {a : Act} {Q : Exit → Act → World → Prop} (w : World) (hgd : o.guard = none) (s x : Operand)
    (ho : o.op = .call { callee := .builtin .append, args := #[s, x], argTypes := #[32, 32] })
    (base : Nat) (v : Value) (L : List Nat) (y : Nat) (hs : a.eval s = v) (hown : Owns w base v L) (B : Nat) (hx : a.eval x = .slice (some ⟨B, 0, none⟩) 1 1) (hB : w.cell? ⟨B, 0, none⟩ = some (.int .i64 (y : Int))) (hlen : L.length ≤ 268435456) (hbase : base ≤ w.heap.size)
    (h : ∀ g cap w', w'.ownsRow base 3 1 (.slice (some ⟨g, 0, none⟩) (L.length + 1) cap) (L.length + 1) (numCells L ++ [.int .i64 (y : Int)]) → w.grownBy w' v.ownBlock → (v.ownBlock = some g ∨ g = w.heap.size) → g < w'.heap.size →
      wpList Try.prog ops Q rest (a.put o.dst (.slice (some ⟨g, 0, none⟩) (L.length + 1) cap)) w') : wpList Try.prog ops Q (o :: rest) a w := by
  obtain ⟨i0, hi0, hz0, hz1, hz2⟩ := info_parts info3
  refine wpList_append_lies w hgd s x 32 ho base 3 i0 (.int .i64 0) 1 8 Try.underlying32 hi0 hz0 hz1 hz2 rfl (by omega) v L.length (numCells L) hs hown.1 ⟨B, 0, none⟩ 1 1 [.int .i64 (y : Int)] hx rfl (fun j u hu => ?_) (fun u hu => ?_) (by omega) (by unfold maxLen; omega) (by omega) hbase _ rfl h
  · match j, hu with
    | 0, hu => simp at hu; subst hu; exact hB
  · simp at hu; subst hu; rfl

/-- 'append' of one list onto a list of lists that the call owns. -/
theorem wpList_push {ops : Array Oper} {rest : List Oper} {o : Oper} {a : Act} {Q : Exit → Act → World → Prop} (w : World) (hgd : o.guard = none) (s x : Operand)
    (ho : o.op = .call { callee := .builtin .append, args := #[s, x], argTypes := #[24, 24] })
    (base : Nat) (v : Value) (n : Nat) (xs : List Value) (ua : Option Addr) (un uc : Nat) (hs : a.eval s = v) (hown : w.ownsRow base 32 1 v n xs) (B : Nat) (hx : a.eval x = .slice (some ⟨B, 0, none⟩) 1 1) (hB : w.cell? ⟨B, 0, none⟩ = some (.slice ua un uc)) (hlen : n ≤ 268435456) (hbase : base ≤ w.heap.size)
    (h : ∀ g cap w', w'.ownsRow base 32 1 (.slice (some ⟨g, 0, none⟩) (n + 1) cap) (n + 1) (xs ++ [.slice ua un uc]) → w.grownBy w' v.ownBlock → (v.ownBlock = some g ∨ g = w.heap.size) → g < w'.heap.size →
      wpList Try.prog ops Q rest (a.put o.dst (.slice (some ⟨g, 0, none⟩) (n + 1) cap)) w') : wpList Try.prog ops Q (o :: rest) a w := by
  obtain ⟨i0, hi0, hz0, hz1, hz2⟩ := info_parts info32
  refine wpList_append_lies w hgd s x 24 ho base 32 i0 (.slice none 0 0) 1 24 Try.underlying24 hi0 hz0 hz1 hz2 rfl (by omega) v n xs hs hown ⟨B, 0, none⟩ 1 1 [.slice ua un uc] hx rfl (fun j u hu => ?_) (fun u hu => ?_) (by omega) (by unfold maxLen; omega) (by omega) hbase _ rfl h
  · match j, hu with
    | 0, hu => simp at hu; subst hu; exact hB
  · simp at hu; subst hu; rfl

/-- A row of the call's own, its last cell given up. -/
theorem ownsRow_pop {w : World} {base : Nat} {e : TypeId} {g n cap : Nat} {xs : List Value} {u : Value} (h : w.ownsRow base e 1 (.slice (some ⟨g, 0, none⟩) (n + 1) cap) (n + 1) (xs ++ [u])) : w.ownsRow base e 1 (.slice (some ⟨g, 0, none⟩) n cap) n xs := by
  obtain ⟨h1, h2⟩ := h
  have hl : xs.length = n := by simp at h1; omega
  refine ⟨by omega, ?_⟩
  rcases h2 with ⟨h2, _⟩ | ⟨g', cap', cur, hv, hg, hh, hc, hm, hs, ht⟩
  · cases h2
  · simp only [Value.slice.injEq, Option.some.injEq, Addr.mk.injEq, and_true] at hv
    obtain ⟨rfl, _, rfl⟩ := hv
    refine .inr ⟨g, cap, cur, rfl, hg, hh, by omega, hm, hs, ?_⟩
    have := congrArg (List.take n) ht
    rw [List.take_take] at this
    simp only [Nat.mul_one] at this ⊢
    rw [show min n (n + 1) = n by omega] at this
    rw [this, ← hl]
    simp

theorem ownsRow_last {w : World} {base : Nat} {e : TypeId} {g n cap : Nat} {xs : List Value} {u : Value} (h : w.ownsRow base e 1 (.slice (some ⟨g, 0, none⟩) (n + 1) cap) (n + 1) (xs ++ [u])) : w.cell? ⟨g, n, none⟩ = some u := by
  have hl : xs.length = n := by have := h.1; simp at this; omega
  rw [h.cellAt n (by omega)]
  simp [← hl]

theorem ownsRow_caps {w : World} {base : Nat} {e : TypeId} {g n cap : Nat} {xs : List Value} (h : w.ownsRow base e 1 (.slice (some ⟨g, 0, none⟩) n cap) n xs) : n ≤ cap ∧ cap ≤ maxLen := by
  rcases h.2 with ⟨h2, _⟩ | ⟨g', cap', cur, hv, hg, hh, hc, hm, hs, ht⟩
  · cases h2
  · simp only [Value.slice.injEq, Option.some.injEq, Addr.mk.injEq, and_true] at hv
    obtain ⟨rfl, _, rfl⟩ := hv
    exact ⟨hc, hm⟩

def rCells (a b c : Value) (i : Nat) : Value :=
  match i with
  | 0 => a
  | 1 => b
  | _ => c

/-- No block is the block of both. -/
def Apart (v u : Value) : Prop := ∀ g, v.ownBlock = some g → u.ownBlock ≠ some g

theorem Apart.symm {v u : Value} (h : Apart v u) : Apart u v := fun g h1 h2 => h g h2 h1

theorem ownsRow_keptAt {w w' : World} {base : Nat} {e : TypeId} {size : Nat} {v : Value} {n : Nat} {xs : List Value} (h : w.ownsRow base e size v n xs) (hk : ∀ g, v.ownBlock = some g → w'.heap[g]? = w.heap[g]?) : w'.ownsRow base e size v n xs := by
  obtain ⟨h1, h2⟩ := h
  refine ⟨h1, ?_⟩
  rcases h2 with h2 | ⟨g, cap, cur, hv, hg, hh, r⟩
  · exact .inl h2
  · exact .inr ⟨g, cap, cur, hv, hg, (hk g (by rw [hv]; rfl)).trans hh, r⟩

theorem Owns.keptAt {w w' : World} {base : Nat} {v : Value} {L : List Nat} (h : Owns w base v L) (hk : ∀ g, v.ownBlock = some g → w'.heap[g]? = w.heap[g]?) : Owns w' base v L := ⟨ownsRow_keptAt h.1 hk, h.2⟩

/-- Three rows that grow (V0, V1, VS), the struct at RB that holds two of them and a count, what is entered at EB: all else of w lies as it lay, but the blocks that the two rows had at the start. -/
structure Mem (w wr : World) (ty : TypeId) (lo RB EB : Nat) (eo : Obj) (v0 v1 : Value) (hd : Int) (V0 V1 VS : Value) (L0 L1 : List Nat) (xs : List Value) : Prop where
  os : wr.os = w.os
  tape : wr.tape = w.tape
  output : wr.output = w.output
  size : w.heap.size ≤ wr.heap.size
  ch : ∀ g, g < w.heap.size → g ≠ RB → g ≠ EB → v0.ownBlock ≠ some g → v1.ownBlock ≠ some g → wr.heap[g]? = w.heap[g]?
  l : lo ≤ w.heap.size ∧ lo ≤ RB ∧ lo ≤ EB ∧ RB ≠ EB
  lv : ∀ g, (v0.ownBlock = some g ∨ v1.ownBlock = some g) → lo ≤ g
  r : wr.rowIs RB ty 3 (rCells V0 (.int .i64 hd) V1)
  ent : wr.heap[EB]? = some eo
  o0 : Owns wr lo V0 L0
  o1 : Owns wr lo V1 L1
  st : wr.ownsRow lo 32 1 VS xs.length xs
  a01 : Apart V0 V1
  a0s : Apart V0 VS
  a1s : Apart V1 VS
  n0 : ∀ g, V0.ownBlock = some g → g ≠ RB ∧ g ≠ EB ∧ (v0.ownBlock = some g ∨ w.heap.size ≤ g)
  n1 : ∀ g, V1.ownBlock = some g → g ≠ RB ∧ g ≠ EB ∧ (v1.ownBlock = some g ∨ w.heap.size ≤ g)
  ns : ∀ g, VS.ownBlock = some g → g ≠ RB ∧ g ≠ EB ∧ w.heap.size ≤ g

section
variable {w wr : World} {ty : TypeId} {lo RB EB : Nat} {eo : Obj} {v0 v1 : Value} {hd : Int} {V0 V1 VS : Value} {L0 L1 : List Nat} {xs : List Value}

/-- What lies below 'lo' lies as it lay. -/
theorem Mem.below (h : Mem w wr ty lo RB EB eo v0 v1 hd V0 V1 VS L0 L1 xs) : Below lo w wr := by
  obtain ⟨l1, l2, l3, l4⟩ := h.l
  exact ⟨h.os, h.tape, h.output, h.size, fun k hk => h.ch k (by omega) (by omega) (by omega) (fun e => by have := h.lv k (.inl e); omega) (fun e => by have := h.lv k (.inr e); omega)⟩

theorem Mem.rlt (h : Mem w wr ty lo RB EB eo v0 v1 hd V0 V1 VS L0 L1 xs) : RB < wr.heap.size := h.r.lt
theorem Mem.elt (h : Mem w wr ty lo RB EB eo v0 v1 hd V0 V1 VS L0 L1 xs) : EB < wr.heap.size := (Array.getElem?_eq_some_iff.1 h.ent).1

theorem Mem.drewN (h : Mem w wr ty lo RB EB eo v0 v1 hd V0 V1 VS L0 L1 xs) (z : Nat) : Mem w (wr.drewN z) ty lo RB EB eo v0 v1 hd V0 V1 VS L0 L1 xs := by
  have hh : (wr.drewN z).heap = wr.heap := rfl
  refine ⟨h.os, h.tape, h.output, h.size, h.ch, h.l, h.lv, h.r.of_block rfl, h.ent, h.o0.keptAt (fun _ _ => rfl), h.o1.keptAt (fun _ _ => rfl), ownsRow_keptAt h.st (fun _ _ => rfl), h.a01, h.a0s, h.a1s, h.n0, h.n1, h.ns⟩

theorem Mem.drew (h : Mem w wr ty lo RB EB eo v0 v1 hd V0 V1 VS L0 L1 xs) : Mem w wr.drew ty lo RB EB eo v0 v1 hd V0 V1 VS L0 L1 xs := h.drewN 1

/-- A store into the struct's own cells. -/
theorem Mem.setR (h : Mem w wr ty lo RB EB eo v0 v1 hd V0 V1 VS L0 L1 xs) (c : Int) : Mem w (wr.setCell ⟨RB, 1, none⟩ (.int .i64 c)) ty lo RB EB eo v0 v1 c V0 V1 VS L0 L1 xs := by
  have hb : ∀ g, g ≠ RB → (wr.setCell ⟨RB, 1, none⟩ (.int .i64 c)).heap[g]? = wr.heap[g]? := fun g hg => Below.heap_setCell _ _ _ _ hg
  refine ⟨h.os, h.tape, h.output, by simpa [World.setCell] using h.size, fun g h1 h2 h3 h4 h5 => (hb g h2).trans (h.ch g h1 h2 h3 h4 h5), h.l, h.lv, World.rowIs.congr (h.r.set 1 _) (fun i hi => ?_), (hb _ (fun e => h.l.2.2.2 e.symm)).trans h.ent,
    h.o0.keptAt (fun g e => hb g (h.n0 g e).1), h.o1.keptAt (fun g e => hb g (h.n1 g e).1), ownsRow_keptAt h.st (fun g e => hb g (h.ns g e).1), h.a01, h.a0s, h.a1s, h.n0, h.n1, h.ns⟩
  match i, hi with
  | 0, _ => rfl
  | 1, _ => rfl
  | 2, _ => rfl

/-- What is entered changes. -/
theorem Mem.entered {w1 : World} (h : Mem w wr ty lo RB EB eo v0 v1 hd V0 V1 VS L0 L1 xs) (hg : wr.grownBy w1 (some EB)) {eo' : Obj} (he : w1.heap[EB]? = some eo') : Mem w w1 ty lo RB EB eo' v0 v1 hd V0 V1 VS L0 L1 xs := by
  have hb : ∀ g, g < wr.heap.size → g ≠ EB → w1.heap[g]? = wr.heap[g]? := fun g hg' hne => hg.block g hg' (fun e => hne (Option.some.inj e))
  have o0 := fun g e => (h.o0.1.lt g e).2
  have o1 := fun g e => (h.o1.1.lt g e).2
  have os := fun g e => (h.st.lt g e).2
  refine ⟨hg.os.trans h.os, hg.tape.trans h.tape, hg.output.trans h.output, Nat.le_trans h.size hg.size, fun g h1 h2 h3 h4 h5 => (hb g (Nat.lt_of_lt_of_le h1 h.size) h3).trans (h.ch g h1 h2 h3 h4 h5), h.l, h.lv, h.r.of_block (hb _ h.r.lt h.l.2.2.2), he,
    h.o0.keptAt (fun g e => hb g (o0 g e) (h.n0 g e).2.1), h.o1.keptAt (fun g e => hb g (o1 g e) (h.n1 g e).2.1), ownsRow_keptAt h.st (fun g e => hb g (os g e) (h.ns g e).2.1), h.a01, h.a0s, h.a1s, h.n0, h.n1, h.ns⟩

theorem grownBy_setCell (w : World) (a : Addr) (u : Value) : w.grownBy (w.setCell a u) (some a.block) :=
  ⟨rfl, rfl, rfl, by simp [World.setCell], fun k _ hne => Below.heap_setCell _ _ _ _ (fun e => hne (by rw [e]))⟩

theorem Mem.rgrown0 {w1 : World} (h : Mem w wr ty lo RB EB eo v0 v1 hd V0 V1 VS L0 L1 xs) (o : Obj) (hg : (wr.alloc o).grownBy w1 V0.ownBlock) : w1.rowIs RB ty 3 (rCells V0 (.int .i64 hd) V1) :=
  h.r.of_block ((hg.block RB (by have := h.rlt; simp; omega) (fun e => (h.n0 RB e.symm).1 rfl)).trans (Below.heap_alloc _ _ _ h.rlt))

theorem Mem.rgrown1 {w1 : World} (h : Mem w wr ty lo RB EB eo v0 v1 hd V0 V1 VS L0 L1 xs) (o : Obj) (hg : (wr.alloc o).grownBy w1 V1.ownBlock) : w1.rowIs RB ty 3 (rCells V0 (.int .i64 hd) V1) :=
  h.r.of_block ((hg.block RB (by have := h.rlt; simp; omega) (fun e => (h.n1 RB e.symm).1 rfl)).trans (Below.heap_alloc _ _ _ h.rlt))

/-- One field more. -/
theorem Mem.app0 {w1 : World} (h : Mem w wr ty lo RB EB eo v0 v1 hd V0 V1 VS L0 L1 xs) (o : Obj) {g cap : Nat} {y : Nat}
    (hown : w1.ownsRow lo 3 1 (.slice (some ⟨g, 0, none⟩) (L0.length + 1) cap) (L0.length + 1) (numCells L0 ++ [.int .i64 (y : Int)]))
    (hg : (wr.alloc o).grownBy w1 V0.ownBlock) (hat : V0.ownBlock = some g ∨ g = (wr.alloc o).heap.size) :
    Mem w (w1.setCell ⟨RB, 0, none⟩ (.slice (some ⟨g, 0, none⟩) (L0.length + 1) cap)) ty lo RB EB eo v0 v1 hd (.slice (some ⟨g, 0, none⟩) (L0.length + 1) cap) V1 VS (L0 ++ [y]) L1 xs := by
  obtain ⟨l1, l2, l3, l4⟩ := h.l
  have hsz : (wr.alloc o).heap.size = wr.heap.size + 1 := by simp
  rw [hsz] at hat
  have hs1 := hg.size
  rw [hsz] at hs1
  have hrl := h.rlt
  have hel := h.elt
  have hws := h.size
  have h1l : ∀ b, V1.ownBlock = some b → b < wr.heap.size := fun b e => (h.o1.1.lt b e).2
  have hsl : ∀ b, VS.ownBlock = some b → b < wr.heap.size := fun b e => (h.st.lt b e).2
  have hng : g ≠ RB ∧ g ≠ EB ∧ (v0.ownBlock = some g ∨ w.heap.size ≤ g) := by
    rcases hat with e | e
    · exact h.n0 g e
    · exact ⟨by omega, by omega, .inr (by omega)⟩
  have hng1 : ∀ b, V1.ownBlock = some b → b ≠ g := fun b e => by
    rcases hat with e' | e'
    · intro hbg; subst hbg; exact h.a01 b e' e
    · have := h1l b e; omega
  have hngs : ∀ b, VS.ownBlock = some b → b ≠ g := fun b e => by
    rcases hat with e' | e'
    · intro hbg; subst hbg; exact h.a0s b e' e
    · have := hsl b e; omega
  have hb : ∀ b, b < wr.heap.size → V0.ownBlock ≠ some b → b ≠ RB → (w1.setCell ⟨RB, 0, none⟩ (.slice (some ⟨g, 0, none⟩) (L0.length + 1) cap)).heap[b]? = wr.heap[b]? := fun b hb1 hb2 hb3 =>
    (Below.heap_setCell _ _ _ _ hb3).trans ((hg.block b (by omega) (fun e => hb2 e.symm)).trans (Below.heap_alloc _ _ _ hb1))
  have hR : w1.rowIs RB ty 3 (rCells V0 (.int .i64 hd) V1) := h.r.of_block ((hg.block RB (by omega) (fun e => (h.n0 RB e.symm).1 rfl)).trans (Below.heap_alloc _ _ _ hrl))
  refine ⟨hg.os.trans h.os, hg.tape.trans h.tape, hg.output.trans h.output, by simp only [World.setCell]; simp; omega, fun b h1 h2 h3 h4 h5 => (hb b (by omega) (fun e => ?_) h2).trans (h.ch b h1 h2 h3 h4 h5), h.l, h.lv, World.rowIs.congr (hR.set 0 _) (fun i hi => ?_), (hb _ hel (fun e => (h.n0 EB e).2.1 rfl) (fun e => l4 e.symm)).trans h.ent,
    ?_, h.o1.keptAt (fun b e => hb b (h1l b e) (fun e' => h.a01 b e' e) (h.n1 b e).1), ownsRow_keptAt h.st (fun b e => hb b (hsl b e) (fun e' => h.a0s b e' e) (h.ns b e).1), ?_, ?_, h.a1s, ?_, h.n1, h.ns⟩
  · rcases (h.n0 b e).2.2 with e2 | e2
    · exact h4 e2
    · omega
  · match i, hi with
    | 0, _ => rfl
    | 1, _ => rfl
    | 2, _ => rfl
  · have : Owns w1 lo (.slice (some ⟨g, 0, none⟩) (L0.length + 1) cap) (L0 ++ [y]) := Owns.snoc (w := w1) hown
    exact this.keptAt (fun b e => Below.heap_setCell _ _ _ _ (by
      have e : g = b := by simpa [Value.ownBlock] using e
      subst e; exact hng.1))
  · intro b e e'
    have e : g = b := by simpa [Value.ownBlock] using e
    exact hng1 b e' e.symm
  · intro b e e'
    have e : g = b := by simpa [Value.ownBlock] using e
    exact hngs b e' e.symm
  · intro b e
    have e : g = b := by simpa [Value.ownBlock] using e
    subst e; exact hng

/-- One field with a set more. -/
theorem Mem.app1 {w1 : World} (h : Mem w wr ty lo RB EB eo v0 v1 hd V0 V1 VS L0 L1 xs) (o : Obj) {g cap : Nat} {y : Nat}
    (hown : w1.ownsRow lo 3 1 (.slice (some ⟨g, 0, none⟩) (L1.length + 1) cap) (L1.length + 1) (numCells L1 ++ [.int .i64 (y : Int)]))
    (hg : (wr.alloc o).grownBy w1 V1.ownBlock) (hat : V1.ownBlock = some g ∨ g = (wr.alloc o).heap.size) :
    Mem w (w1.setCell ⟨RB, 2, none⟩ (.slice (some ⟨g, 0, none⟩) (L1.length + 1) cap)) ty lo RB EB eo v0 v1 hd V0 (.slice (some ⟨g, 0, none⟩) (L1.length + 1) cap) VS L0 (L1 ++ [y]) xs := by
  obtain ⟨l1, l2, l3, l4⟩ := h.l
  have hsz : (wr.alloc o).heap.size = wr.heap.size + 1 := by simp
  rw [hsz] at hat
  have hs1 := hg.size
  rw [hsz] at hs1
  have hrl := h.rlt
  have hel := h.elt
  have hws := h.size
  have h0l : ∀ b, V0.ownBlock = some b → b < wr.heap.size := fun b e => (h.o0.1.lt b e).2
  have hsl : ∀ b, VS.ownBlock = some b → b < wr.heap.size := fun b e => (h.st.lt b e).2
  have hng : g ≠ RB ∧ g ≠ EB ∧ (v1.ownBlock = some g ∨ w.heap.size ≤ g) := by
    rcases hat with e | e
    · exact h.n1 g e
    · exact ⟨by omega, by omega, .inr (by omega)⟩
  have hng0 : ∀ b, V0.ownBlock = some b → b ≠ g := fun b e => by
    rcases hat with e' | e'
    · intro hbg; subst hbg; exact h.a01 b e e'
    · have := h0l b e; omega
  have hngs : ∀ b, VS.ownBlock = some b → b ≠ g := fun b e => by
    rcases hat with e' | e'
    · intro hbg; subst hbg; exact h.a1s b e' e
    · have := hsl b e; omega
  have hb : ∀ b, b < wr.heap.size → V1.ownBlock ≠ some b → b ≠ RB → (w1.setCell ⟨RB, 2, none⟩ (.slice (some ⟨g, 0, none⟩) (L1.length + 1) cap)).heap[b]? = wr.heap[b]? := fun b hb1 hb2 hb3 =>
    (Below.heap_setCell _ _ _ _ hb3).trans ((hg.block b (by omega) (fun e => hb2 e.symm)).trans (Below.heap_alloc _ _ _ hb1))
  have hR : w1.rowIs RB ty 3 (rCells V0 (.int .i64 hd) V1) := h.r.of_block ((hg.block RB (by omega) (fun e => (h.n1 RB e.symm).1 rfl)).trans (Below.heap_alloc _ _ _ hrl))
  refine ⟨hg.os.trans h.os, hg.tape.trans h.tape, hg.output.trans h.output, by simp only [World.setCell]; simp; omega, fun b h1 h2 h3 h4 h5 => (hb b (by omega) (fun e => ?_) h2).trans (h.ch b h1 h2 h3 h4 h5), h.l, h.lv, World.rowIs.congr (hR.set 2 _) (fun i hi => ?_), (hb _ hel (fun e => (h.n1 EB e).2.1 rfl) (fun e => l4 e.symm)).trans h.ent,
    h.o0.keptAt (fun b e => hb b (h0l b e) (fun e' => h.a01 b e e') (h.n0 b e).1), ?_, ownsRow_keptAt h.st (fun b e => hb b (hsl b e) (fun e' => h.a1s b e' e) (h.ns b e).1), ?_, h.a0s, ?_, h.n0, ?_, h.ns⟩
  · rcases (h.n1 b e).2.2 with e2 | e2
    · exact h5 e2
    · omega
  · match i, hi with
    | 0, _ => rfl
    | 1, _ => rfl
    | 2, _ => rfl
  · have : Owns w1 lo (.slice (some ⟨g, 0, none⟩) (L1.length + 1) cap) (L1 ++ [y]) := Owns.snoc (w := w1) hown
    exact this.keptAt (fun b e => Below.heap_setCell _ _ _ _ (by
      have e : g = b := by simpa [Value.ownBlock] using e
      subst e; exact hng.1))
  · intro b e e'
    have e' : g = b := by simpa [Value.ownBlock] using e'
    exact hng0 b e e'.symm
  · intro b e e'
    have e : g = b := by simpa [Value.ownBlock] using e
    exact hngs b e' e.symm
  · intro b e
    have e : g = b := by simpa [Value.ownBlock] using e
    subst e; exact hng

/-- One set more to go through. -/
theorem Mem.push {w1 : World} (h : Mem w wr ty lo RB EB eo v0 v1 hd V0 V1 VS L0 L1 xs) (o : Obj) {g cap : Nat} {u : Value}
    (hown : w1.ownsRow lo 32 1 (.slice (some ⟨g, 0, none⟩) (xs.length + 1) cap) (xs.length + 1) (xs ++ [u]))
    (hg : (wr.alloc o).grownBy w1 VS.ownBlock) (hat : VS.ownBlock = some g ∨ g = (wr.alloc o).heap.size) :
    Mem w w1 ty lo RB EB eo v0 v1 hd V0 V1 (.slice (some ⟨g, 0, none⟩) (xs.length + 1) cap) L0 L1 (xs ++ [u]) := by
  obtain ⟨l1, l2, l3, l4⟩ := h.l
  have hsz : (wr.alloc o).heap.size = wr.heap.size + 1 := by simp
  rw [hsz] at hat
  have hs1 := hg.size
  rw [hsz] at hs1
  have hrl := h.rlt
  have hel := h.elt
  have hws := h.size
  have h0l : ∀ b, V0.ownBlock = some b → b < wr.heap.size := fun b e => (h.o0.1.lt b e).2
  have h1l : ∀ b, V1.ownBlock = some b → b < wr.heap.size := fun b e => (h.o1.1.lt b e).2
  have hng : g ≠ RB ∧ g ≠ EB ∧ w.heap.size ≤ g := by
    rcases hat with e | e
    · exact h.ns g e
    · exact ⟨by omega, by omega, by omega⟩
  have hng0 : ∀ b, V0.ownBlock = some b → b ≠ g := fun b e => by
    rcases hat with e' | e'
    · intro hbg; subst hbg; exact h.a0s b e e'
    · have := h0l b e; omega
  have hng1 : ∀ b, V1.ownBlock = some b → b ≠ g := fun b e => by
    rcases hat with e' | e'
    · intro hbg; subst hbg; exact h.a1s b e e'
    · have := h1l b e; omega
  have hb : ∀ b, b < wr.heap.size → VS.ownBlock ≠ some b → w1.heap[b]? = wr.heap[b]? := fun b hb1 hb2 => (hg.block b (by omega) (fun e => hb2 e.symm)).trans (Below.heap_alloc _ _ _ hb1)
  refine ⟨hg.os.trans h.os, hg.tape.trans h.tape, hg.output.trans h.output, by omega, fun b h1 h2 h3 h4 h5 => (hb b (by omega) (fun e => by have := (h.ns b e).2.2; omega)).trans (h.ch b h1 h2 h3 h4 h5), h.l, h.lv, h.r.of_block (hb _ hrl (fun e => (h.ns RB e).1 rfl)), (hb _ hel (fun e => (h.ns EB e).2.1 rfl)).trans h.ent,
    h.o0.keptAt (fun b e => hb b (h0l b e) (fun e' => h.a0s b e e')), h.o1.keptAt (fun b e => hb b (h1l b e) (fun e' => h.a1s b e e')), ?_, h.a01, ?_, ?_, h.n0, h.n1, ?_⟩
  · rw [List.length_append, List.length_singleton]; exact hown
  · intro b e e'
    have e' : g = b := by simpa [Value.ownBlock] using e'
    exact hng0 b e e'.symm
  · intro b e e'
    have e' : g = b := by simpa [Value.ownBlock] using e'
    exact hng1 b e e'.symm
  · intro b e
    have e : g = b := by simpa [Value.ownBlock] using e
    subst e; exact hng

/-- The last set is taken. -/
theorem Mem.pop {g cap : Nat} {u : Value} (h : Mem w wr ty lo RB EB eo v0 v1 hd V0 V1 (.slice (some ⟨g, 0, none⟩) (xs.length + 1) cap) L0 L1 (xs ++ [u])) : Mem w wr ty lo RB EB eo v0 v1 hd V0 V1 (.slice (some ⟨g, 0, none⟩) xs.length cap) L0 L1 xs := by
  have hst := h.st
  rw [List.length_append, List.length_singleton] at hst
  exact ⟨h.os, h.tape, h.output, h.size, h.ch, h.l, h.lv, h.r, h.ent, h.o0, h.o1, ownsRow_pop hst, h.a01, h.a0s, h.a1s, h.n0, h.n1, h.ns⟩

end

end Go.Proofs.Qxb6602394a.T
