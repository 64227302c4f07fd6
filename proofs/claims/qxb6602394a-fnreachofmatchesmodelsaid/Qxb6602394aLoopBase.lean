/-
  reachOf: what holds at each turn of its loops.
-/
import Derived.Test.Qxb6602394aClasses
namespace Go.Proofs.Qxb6602394a.T
open Go.RowKit
set_option linter.unusedVariables false

theorem zero74 (w : World) : (zeroValue 74).run Try.prog w = .ok (.agg #[nilS, .int .i64 0, nilS]) w := by kernel_rfl
theorem zero4 (w : World) : (zeroValue 4).run Try.prog w = .ok (.bool false) w := by kernel_rfl

abbrev isField (key : Nat → ByteArray) : Nat → Bool := fun x => !(key x).toList.isEmpty

/-- What a group begins with. -/
def startSt (N : Nat) (c : Int) : St := ⟨[], 0, [], fun d => decide (c = (N : Int) + d)⟩

/-- Is the group y entered? -/
def entAt (N n : Nat) (ent : Nat → Bool) (y : Int) : Bool :=
  if y = -1 then ent n else if (N : Int) ≤ y ∧ y < (N : Int) + n then ent (y - N).toNat else false

theorem entAt_start {N n : Nat} {c : Int} (hc : c < (N : Int) + n) (y : Int) : ((if y = c then some (Value.bool (decide ((N : Int) ≤ c))) else none).getD (.bool false)) = .bool (entAt N n (startSt N c).ent y) := by
  unfold entAt startSt
  by_cases e : y = c
  · subst e
    rw [if_pos rfl]
    simp only [Option.getD_some, Value.bool.injEq]
    by_cases e1 : y = -1
    · subst e1
      rw [if_pos rfl]
      rw [decide_eq_false (show ¬ (N : Int) ≤ -1 by omega), decide_eq_false (by omega)]
    · rw [if_neg e1]
      by_cases e2 : (N : Int) ≤ y
      · rw [if_pos ⟨e2, hc⟩, decide_eq_true e2, decide_eq_true (by omega)]
      · rw [if_neg (fun h => e2 h.1), decide_eq_false e2]
  · rw [if_neg e]
    simp only [Option.getD_none, Value.bool.injEq]
    by_cases e1 : y = -1
    · rw [if_pos e1, decide_eq_false (by omega)]
    · rw [if_neg e1]
      by_cases e2 : (N : Int) ≤ y ∧ y < (N : Int) + n
      · rw [if_pos e2, decide_eq_false (by omega)]
      · rw [if_neg e2]

section
variable {n N : Nat} {key : Nat → ByteArray} {sp : Nat → Bool} {fr : Nat → Option Nat} {hl : Nat → List Nat} {x : Nat} {r : List Nat} {T : List (List Nat)} {st fin : St} {k : Nat}

theorem entAt_class (hx : x < N) (hfr : ∀ d, fr x = some d → d < n) : entAt N n st.ent (classNo N sp fr x) = if sp x = true then st.ent (slotOf fr n x) else false := by
  unfold classNo
  by_cases e : sp x = true
  · rw [if_pos e, if_pos e]
    unfold slotOf
    cases ef : fr x with
    | none => unfold entAt; rw [if_pos rfl]
    | some d =>
      have := hfr d ef
      unfold entAt
      simp only
      rw [if_neg (by omega), if_pos ⟨by omega, by omega⟩, show ((N : Int) + d - N).toNat = d by omega]
  · rw [if_neg e, if_neg e]
    unfold entAt
    rw [if_neg (by omega), if_neg (by omega)]

theorem entAt_enter (hx : x < N) (hfr : ∀ d, fr x = some d → d < n) (hs : sp x = true) (st' : St) (y : Int) : entAt N n (enter (slotOf fr n x) st').ent y = if y = classNo N sp fr x then true else entAt N n st'.ent y := by
  unfold classNo
  rw [if_pos hs]
  unfold slotOf enter entAt
  cases ef : fr x with
  | none =>
    simp only
    by_cases e : y = -1
    · rw [if_pos e, if_pos e]; simp
    · rw [if_neg e, if_neg e]
      by_cases e2 : (N : Int) ≤ y ∧ y < (N : Int) + n
      · rw [if_pos e2, if_pos e2, if_neg (by omega), if_neg e]
      · rw [if_neg e2, if_neg e2, if_neg e]
  | some d =>
    have := hfr d ef
    simp only
    by_cases e : y = -1
    · rw [if_pos e, if_neg (by omega), if_neg (by omega), if_pos e]
    · rw [if_neg e]
      by_cases e2 : (N : Int) ≤ y ∧ y < (N : Int) + n
      · rw [if_pos e2]
        by_cases e3 : y = (N : Int) + d
        · rw [if_pos e3, if_pos (by omega)]
        · rw [if_neg e3, if_neg e, if_pos e2, if_neg (by omega)]
      · rw [if_neg e2, if_neg (by omega), if_neg e, if_neg e2]

/-- A spread or inline fragment whose set is gone through. -/
theorem Goes.frag {isF : Nat → Bool} (h : Goes n isF sp fr hl (x :: r) T st fin k) (hF : isF x = false) (hx : x < N) (hfr : ∀ d, fr x = some d → d < n) (he : entAt N n st.ent (classNo N sp fr x) = false) :
    ∃ k' st', k = k' + 1 ∧ Goes n isF sp fr hl r (hl x :: T) st' fin k' ∧ st'.fields = st.fields ∧ st'.ws = st.ws ∧ st'.held = st.held + (hl x).length ∧ ∀ y, entAt N n st'.ent y = if y = classNo N sp fr x then sp x else entAt N n st.ent y := by
  rw [entAt_class hx hfr] at he
  obtain ⟨k0, rfl, h⟩ := h.taken
  rcases h with ⟨e, h⟩ | ⟨_, e, h⟩ | ⟨_, e, e2, h⟩ | ⟨_, e, e2, h⟩
  · rw [hF] at e; cases e
  · refine ⟨_, _, rfl, h, rfl, rfl, rfl, fun y => ?_⟩
    by_cases ey : y = classNo N sp fr x
    · rw [if_pos ey, ey]
      show entAt N n st.ent _ = _
      rw [entAt_class hx hfr, e]; rfl
    · rw [if_neg ey]; rfl
  · rw [if_pos e, e2] at he; cases he
  · refine ⟨_, _, rfl, h, rfl, rfl, rfl, fun y => ?_⟩
    rw [entAt_enter hx hfr e, e]; rfl

/-- A spread whose fragment was entered before. -/
theorem Goes.seen {isF : Nat → Bool} (h : Goes n isF sp fr hl (x :: r) T st fin k) (hF : isF x = false) (hx : x < N) (hfr : ∀ d, fr x = some d → d < n) (he : entAt N n st.ent (classNo N sp fr x) = true) :
    ∃ k', k = k' + 1 ∧ Goes n isF sp fr hl r T (takeH hl x st) fin k' := by
  rw [entAt_class hx hfr] at he
  obtain ⟨k0, rfl, h⟩ := h.taken
  rcases h with ⟨e, h⟩ | ⟨_, e, h⟩ | ⟨_, e, e2, h⟩ | ⟨_, e, e2, h⟩
  · rw [hF] at e; cases e
  · rw [e] at he; cases he
  · exact ⟨_, rfl, h⟩
  · rw [if_pos e, e2] at he; cases he

theorem Goes.isfield {isF : Nat → Bool} (h : Goes n isF sp fr hl (x :: r) T st fin k) (hF : isF x = true) : ∃ k', k = k' + 1 ∧ Goes n isF sp fr hl r T (takeF hl x st) fin k' := by
  obtain ⟨k0, rfl, h⟩ := h.taken
  rcases h with ⟨e, h⟩ | ⟨e, _⟩ | ⟨e, _⟩ | ⟨e, _⟩
  · exact ⟨_, rfl, h⟩
  · rw [hF] at e; cases e
  · rw [hF] at e; cases e
  · rw [hF] at e; cases e

end

/-- At each turn: the rest of a set, a stack of sets (the top first), what is counted. -/
structure Loop (wA wr : World) (n N : Nat) (key : Nat → ByteArray) (sp : Nat → Bool) (fr : Nat → Option Nat) (hl : Nat → List Nat) (RB EB : Nat) (fin : St) (VS : Value) (r : List Nat) (kk : Nat) (Z : List (Value × List Nat)) (st : St) (V0 V1 : Value) (eo : Obj) (G : Int → Option Value) (cnt : Nat) : Prop where
  goes : Goes n (isField key) sp fr hl r (Z.map (·.2)) st fin kk
  mem : Mem wA wr 74 wA.heap.size RB EB eo nilS nilS (st.held : Int) V0 V1 VS st.fields st.ws (Z.map (·.1)).reverse
  sets : ∀ p, p ∈ Z → ListAt wA p.1 p.2 ∧ ∀ y, y ∈ p.2 → y < N
  map : MapIs Try.prog wr 3 EB cnt (byI64 G)
  ent : ∀ y, (G y).getD (.bool false) = .bool (entAt N n st.ent y)
  cnt : cnt + kk ≤ 33566730

/-- The start. -/
theorem Loop.start {wA wB wC wS : World} {n N : Nat} {key : Nat → ByteArray} {sp : Nat → Bool} {fr : Nat → Option Nat} {hl : Nat → List Nat} {fin : St} {c : Int} {k : Nat} {S : List Nat} {v : Value} {z : Nat}
    (hgo : Goes n (isField key) sp fr hl S [] (startSt N c) fin k) (hk : k ≤ 33566720) (hc : c < (N : Int) + n) (hB : wB = wA.alloc (.cells #[nilS, .int .i64 0, nilS] 74)) (hC : wC = (wB.drewN z).alloc (.cells #[v] 32)) (hg : (wC.alloc (.map #[] 0)).grownBy wS (some wC.heap.size))
    (hv : ListAt wA v S) (hS : ∀ y, y ∈ S → y < N) (hM : MapIs Try.prog wS 3 wC.heap.size (0 + 1) (byI64 fun y => if y = c then some (.bool (decide ((N : Int) ≤ c))) else none)) :
    ∃ eo, Loop wA wS n N key sp fr hl wA.heap.size wC.heap.size fin (.slice (some ⟨wB.heap.size, 0, none⟩) 1 1) [] (k + 1) [(v, S)] (startSt N c) nilS nilS eo (fun y => if y = c then some (.bool (decide ((N : Int) ≤ c))) else none) 1 := by
  have sB : wB.heap.size = wA.heap.size + 1 := by rw [hB]; simp
  have sC : wC.heap.size = wA.heap.size + 2 := by rw [hC]; simp [sB]
  have hBA : ∀ g, g < wA.heap.size → wB.heap[g]? = wA.heap[g]? := fun g h => by rw [hB]; exact Below.heap_alloc _ _ _ h
  have hCB : ∀ g, g < wB.heap.size → wC.heap[g]? = wB.heap[g]? := fun g h => by rw [hC]; exact Below.heap_alloc _ _ _ h
  have hSC : ∀ g, g < wC.heap.size → wS.heap[g]? = wC.heap[g]? := fun g h => (hg.block g (by simp; omega) (fun e => by simp at e; omega)).trans (Below.heap_alloc _ _ _ h)
  have hs := hg.size
  have hs' : (wC.alloc (.map #[] 0)).heap.size = wC.heap.size + 1 := by simp
  rw [hs'] at hs
  have hE : wC.heap.size < wS.heap.size := by omega
  have hos : wB.os = wA.os ∧ wB.tape = wA.tape ∧ wB.output = wA.output := by rw [hB]; exact ⟨rfl, rfl, rfl⟩
  have hos2 : wC.os = wB.os ∧ wC.tape = wB.tape ∧ wC.output = wB.output := by rw [hC]; exact ⟨rfl, rfl, rfl⟩
  have hr : wB.rowIs wA.heap.size 74 3 (rCells nilS (.int .i64 0) nilS) := by
    rw [hB]
    exact World.rowIs_alloc wA #[nilS, .int .i64 0, nilS] 74 (rCells nilS (.int .i64 0) nilS) (fun i hi => by
      have : i < 3 := by simpa using hi
      match i, this with
      | 0, _ => rfl
      | 1, _ => rfl
      | 2, _ => rfl)
  have hst : wC.ownsRow wA.heap.size 32 1 (.slice (some ⟨wB.heap.size, 0, none⟩) 1 1) 1 [v] := by
    refine ⟨rfl, .inr ⟨wB.heap.size, 1, #[v], rfl, by omega, ?_, by omega, by decide, rfl, rfl⟩⟩
    rw [hC]
    simp [World.alloc]
  refine ⟨wS.heap[wC.heap.size], ⟨.pop hgo, ⟨hg.os.trans (hos2.1.trans hos.1), hg.tape.trans (hos2.2.1.trans hos.2.1), hg.output.trans (hos2.2.2.trans hos.2.2), by omega, fun g h1 h2 h3 _ _ => (hSC g (by omega)).trans ((hCB g (by omega)).trans (hBA g h1)), ⟨Nat.le_refl _, Nat.le_refl _, by omega, by omega⟩, fun g h => (by rcases h with h | h <;> cases h),
    hr.of_block ((hSC _ (by omega)).trans (hCB _ (by omega))), by rw [Array.getElem?_eq_getElem hE], ⟨World.ownsRow_nil _ _ _ _, fun _ => rfl⟩, ⟨World.ownsRow_nil _ _ _ _, fun _ => rfl⟩, ownsRow_keptAt hst (fun g e => ?_), fun g h => (by cases h), fun g h => (by cases h), fun g h => (by cases h), fun g h => (by cases h), fun g h => (by cases h), fun g h => ?_⟩, ?_, hM, entAt_start hc, by omega⟩⟩
  · have e : wB.heap.size = g := by simpa [Value.ownBlock] using e
    exact hSC g (by omega)
  · have e : wB.heap.size = g := by simpa [Value.ownBlock] using h
    omega
  · intro p hp
    simp only [List.mem_singleton] at hp
    subst hp
    exact ⟨hv, hS⟩

end Go.Proofs.Qxb6602394a.T
