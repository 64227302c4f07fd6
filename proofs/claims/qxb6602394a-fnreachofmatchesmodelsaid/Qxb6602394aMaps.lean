/-
  A MAP THAT THE CALL MAKES, TOLD KEY BY KEY: 'F kl': what it holds at the key kl. Over the library's 'ownsMap', its elements read as themselves.
-/
import Derived.Maps.OwnSet
import Derived.Maps.OwnOps
import Derived.WalkKit
namespace Go.Proofs.Qxb6602394a.T
open Go.RowKit Go.Maps Go.WideMaps
set_option linter.unusedVariables false

/-- An element reads as itself. -/
def selfElem (v : Value) : Option (DataW Value × List MemPlace) := some (.held v, [])

/-- Block b is a map of at most n entries that holds 'F kl' at the key kl. -/
def MapIs (P : Program) (w : World) (k : TypeId) (b n : Nat) (F : Lit → Option Value) : Prop :=
  ∃ D : DataW Value, w.ownsMap P k selfElem b n D ∧ ∀ kl, WideAt.IsKeyLit kl → (∀ z, D.atKey kl (.held z) = .held ((F kl).getD z)) ∧ Maps.has D kl = (F kl).isSome

section
variable {P : Program} {w : World} {k t e : TypeId} {b n : Nat} {F : Lit → Option Value}

theorem MapIs.lt (h : MapIs P w k b n F) : b < w.heap.size := by obtain ⟨D, h1, _⟩ := h; exact h1.lt

theorem MapIs.made (P : Program) (w : World) (k : TypeId) : MapIs P (w.alloc (.map #[] 0)) k w.heap.size 0 (fun _ => none) :=
  ⟨.map [], World.ownsMap_made _ _ _ _, fun kl _ => ⟨fun z => rfl, rfl⟩⟩

theorem MapIs.kept {w' : World} (h : MapIs P w k b n F) (hb : w'.heap[b]? = w.heap[b]?) : MapIs P w' k b n F := by
  obtain ⟨D, ⟨es, clock, h1, h2, h3, h4⟩, h5⟩ := h
  exact ⟨D, ⟨es, clock, hb.trans h1, h2, h3, h4⟩, h5⟩

theorem MapIs.mono (h : MapIs P w k b n F) {n' : Nat} (hn : n ≤ n') : MapIs P w k b n' F := by
  obtain ⟨D, h1, h2⟩ := h
  exact ⟨D, h1.mono hn, h2⟩

theorem MapIs.congr {F' : Lit → Option Value} (h : MapIs P w k b n F) (hF : ∀ kl, WideAt.IsKeyLit kl → F kl = F' kl) : MapIs P w k b n F' := by
  obtain ⟨D, h1, h2⟩ := h
  exact ⟨D, h1, fun kl hk => by rw [← hF kl hk]; exact h2 kl hk⟩

theorem MapIs.look (h : MapIs P w k b n F) (K : Keyed P k) (ht : P.underlying t = some (.map k e)) {z : Value} (hz : (zeroValue e).run P w = .ok z w) {key : Value} {kl : Lit} (hkey : keyOf P k key = some kl) :
    (Instr.lookup t (.map (some b)) key false).run P w = .ok ((F kl).getD z) w := by
  obtain ⟨D, h1, h2⟩ := h
  obtain ⟨v, ps, hrun, hv⟩ := h1.lookup K ht hz (zd := .held z) (zp := []) rfl hkey
  rw [(h2 kl (K.key hkey)).1 z] at hv
  simp only [selfElem, Option.some.injEq, Prod.mk.injEq, DataW.held.injEq] at hv
  rw [hrun, hv.1]

theorem MapIs.look_ok (h : MapIs P w k b n F) (K : Keyed P k) (ht : P.underlying t = some (.map k e)) {z : Value} (hz : (zeroValue e).run P w = .ok z w) {key : Value} {kl : Lit} (hkey : keyOf P k key = some kl) :
    (Instr.lookup t (.map (some b)) key true).run P w = .ok (.tuple #[(F kl).getD z, .bool (F kl).isSome]) w := by
  obtain ⟨D, h1, h2⟩ := h
  obtain ⟨v, ps, hrun, hv⟩ := h1.look_ok K ht hz (zd := .held z) (zp := []) rfl hkey
  rw [(h2 kl (K.key hkey)).1 z] at hv
  simp only [selfElem, Option.some.injEq, Prod.mk.injEq, DataW.held.injEq] at hv
  rw [hrun, hv.1, (h2 kl (K.key hkey)).2]

theorem MapIs.store (h : MapIs P w k b n F) (K : Keyed P k) (ht : P.underlying t = some (.map k e)) (hn : n < maxLen) {key : Value} {kl : Lit} (hkey : keyOf P k key = some kl) (val : Value) :
    ∃ w', (Instr.mapUpdate t (.map (some b)) key val).run P w = .ok () w' ∧ (∀ F' : Lit → Option Value, F' kl = some val → (∀ kl', kl' ≠ kl → F' kl' = F kl') → MapIs P w' k b (n + 1) F') ∧ w.grownBy w' (some b) := by
  obtain ⟨D, h1, h2⟩ := h
  obtain ⟨w', hrun, hown, hg⟩ := h1.update K ht hn hkey (val := val) (d := .held val) (ps := []) rfl
  refine ⟨w', hrun, fun F' e0 eF => ⟨_, hown, fun kl' hk' => ?_⟩, hg⟩
  by_cases e1 : kl' = kl
  · subst e1
    rw [e0]
    exact ⟨fun z => Maps.atKey_put_same h1.isMap hk' _ _, by rw [Maps.has_put_same h1.isMap hk']; rfl⟩
  · rw [eF kl' e1]
    exact ⟨fun z => by rw [Maps.atKey_put_other e1]; exact (h2 kl' hk').1 z, by rw [Maps.has_put_other e1]; exact (h2 kl' hk').2⟩

theorem MapIs.len (h : MapIs P w k b n F) (ht : P.underlying t = some (.map k e)) (ty : TypeId) : ∃ s : Nat, s ≤ n ∧ (Builtin.len_ #[t] ty #[.map (some b)]).run P w = .ok (.int .i64 s) w := by
  obtain ⟨D, h1, h2⟩ := h
  exact ⟨_, h1.size_le, h1.len ht ty⟩

end

theorem run_makeMap_hint {P : Program} {t k e : TypeId} (ht : P.underlying t = some (.map k e)) (s : Nat) (w : World) : (Instr.makeMap t (some (.int .i64 (s : Int)))).run P w = .ok (.map (some w.heap.size)) (w.alloc (.map #[] 0)) := by
  simp [Instr.makeMap, run_underlying ht, asInt, asIntOf]

/-- A map keyed by strings: what it holds at a string. -/
def byStr (G : ByteArray → Option Value) : Lit → Option Value
  | .string l => G ⟨l.toArray⟩
  | _ => none

theorem byStr_at (G : ByteArray → Option Value) (s : ByteArray) : byStr G (.string s.data.toList) = G s := by
  cases s; simp [byStr]

/-- A map keyed by ints. -/
def byInt (G : Int → Option Value) : Lit → Option Value
  | .int _ n => G n
  | _ => none

section
variable {P : Program} {w : World} {k t e : TypeId} {b n : Nat}

theorem MapIs.lookStr {G : ByteArray → Option Value} (h : MapIs P w k b n (byStr G)) (hk : P.underlying k = some .string) (ht : P.underlying t = some (.map k e)) {z : Value} (hz : (zeroValue e).run P w = .ok z w) {s : ByteArray} (hs : s.size ≤ maxLen) :
    (Instr.lookup t (.map (some b)) (.string s) false).run P w = .ok ((G s).getD z) w := by
  have := h.look (string_keyed hk) ht hz (keyOf_string_mk hk hs)
  rwa [byStr_at] at this

theorem MapIs.lookStr_ok {G : ByteArray → Option Value} (h : MapIs P w k b n (byStr G)) (hk : P.underlying k = some .string) (ht : P.underlying t = some (.map k e)) {z : Value} (hz : (zeroValue e).run P w = .ok z w) {s : ByteArray} (hs : s.size ≤ maxLen) :
    (Instr.lookup t (.map (some b)) (.string s) true).run P w = .ok (.tuple #[(G s).getD z, .bool (G s).isSome]) w := by
  have := h.look_ok (string_keyed hk) ht hz (keyOf_string_mk hk hs)
  rwa [byStr_at] at this

theorem MapIs.storeStr {G : ByteArray → Option Value} (h : MapIs P w k b n (byStr G)) (hk : P.underlying k = some .string) (ht : P.underlying t = some (.map k e)) (hn : n < maxLen) {s : ByteArray} (hs : s.size ≤ maxLen) (val : Value) :
    ∃ w', (Instr.mapUpdate t (.map (some b)) (.string s) val).run P w = .ok () w' ∧ (∀ G' : ByteArray → Option Value, G' s = some val → (∀ s', s' ≠ s → G' s' = G s') → MapIs P w' k b (n + 1) (byStr G')) ∧ w.grownBy w' (some b) := by
  obtain ⟨w', hrun, hF, hg⟩ := h.store (string_keyed hk) ht hn (keyOf_string_mk hk hs) val
  refine ⟨w', hrun, fun G' e0 eG => hF _ (by rw [byStr_at]; exact e0) (fun kl' hne => ?_), hg⟩
  cases kl' with
  | string l =>
    show G' ⟨l.toArray⟩ = G ⟨l.toArray⟩
    refine eG _ (fun e1 => hne ?_)
    rw [← e1]
  | _ => rfl

theorem MapIs.lookInt {G : Int → Option Value} (h : MapIs P w k b n (byInt G)) (hk : P.underlying k = some (.int .i64)) (ht : P.underlying t = some (.map k e)) {z : Value} (hz : (zeroValue e).run P w = .ok z w) {x : Int} (hx : (Lit.int .i64 x).wf = true) :
    (Instr.lookup t (.map (some b)) (.int .i64 x) false).run P w = .ok ((G x).getD z) w :=
  h.look (int_keyed hk) ht hz (keyOf_int_mk hk hx)

theorem MapIs.lookInt_ok {G : Int → Option Value} (h : MapIs P w k b n (byInt G)) (hk : P.underlying k = some (.int .i64)) (ht : P.underlying t = some (.map k e)) {z : Value} (hz : (zeroValue e).run P w = .ok z w) {x : Int} (hx : (Lit.int .i64 x).wf = true) :
    (Instr.lookup t (.map (some b)) (.int .i64 x) true).run P w = .ok (.tuple #[(G x).getD z, .bool (G x).isSome]) w :=
  h.look_ok (int_keyed hk) ht hz (keyOf_int_mk hk hx)

end

end Go.Proofs.Qxb6602394a.T
