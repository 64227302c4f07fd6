/-
  fragmentsByName: a map from each fragment's name to the first fragment of that name.
-/
import Derived.Test.Qxb6602394aDefs
import Derived.Test.Qxb6602394aPlain
import Derived.Test.Qxb6602394aMaps
namespace Go.Proofs.Qxb6602394a.T
open Go.RowKit
set_option linter.unusedVariables false

theorem zero87 (w : World) : (zeroValue 87).run Try.prog w = .ok (.pointer none) w := by kernel_rfl
theorem zero3 (w : World) : (zeroValue 3).run Try.prog w = .ok (.int .i64 0) w := by kernel_rfl

def intAt (o : Option Nat) : Option Value := o.map fun (d : Nat) => .int .i64 (d : Int)
def ptrTo (D : Nat → Nat) (o : Option Nat) : Option Value := o.map fun d => .pointer (some ⟨D d, 0, none⟩)

set_option maxRecDepth 100000 in
set_option maxHeartbeats 800000 in
theorem byName_any (A n : Nat) (D S : Nat → Nat) (fb : Nat → Bool) (nm : Nat → ByteArray) (m : Nat → Nat) (par : Nat → Nat → Int) (ky fg : Nat → Nat → ByteArray) (w : World) (hn : n ≤ 4096) (hs : ∀ i, i < n → (nm i).size ≤ maxLen)
    (h : DefsAt w A n D S fb nm m par ky fg) :
    Calls Try.prog 40 #[.slice (some ⟨A, 0, none⟩) n n] w fun e w' => e = .returned (.map (some w.heap.size)) ∧ MapIs Try.prog w' 9 w.heap.size n (byStr fun s => ptrTo D (fragIx fb nm n s)) ∧ Below w.heap.size w w' := by
  have hmm := @run_makeMap Try.prog
  go_enter Try.func40, Try.ntmps40
  go_wp2
  clear hmm
  go_loopg [5, 11] n (fun k _ i wr => ∃ p : Nat, k = n - p ∧ p ≤ n ∧ i = .int .i64 p ∧ MapIs Try.prog wr 9 w.heap.size p (byStr fun s => ptrTo D (fragIx fb nm p s)) ∧ Below w.heap.size w wr)
  case atStart => exact ⟨0, rfl, Nat.zero_le _, rfl, (MapIs.made _ _ _).congr (fun kl _ => by cases kl <;> rfl), (Below.refl _ _).alloc (Nat.le_refl _) _⟩
  case round =>
    obtain ⟨p, hk, hpn, rfl, hmap, hb⟩ := hrel
    have HK : Hid (gk = n - p) := hk
    clear hk
    by_cases hlt : p < n
    · have hd := (h.each p hlt)
      have hb' : ∀ {a : Addr} {v : Value}, w.cell? a = some v → wr.cell? a = some v := fun h => (hb.cell (lt_of_cell h)).trans h
      have q0 := hb' (h.ptr p hlt)
      have q1 := hb' hd.frag
      have q2 := hb' hd.name
      have hsp := hs p hlt
      have look := hmap.lookStr_ok Try.underlying9 Try.underlying96 (zero87 wr) hsp
      have HM : Hid (MapIs Try.prog wr 9 w.heap.size p (byStr fun s => ptrTo D (fragIx fb nm p s))) := hmap
      have hne : ∀ d, fragIx fb nm p (nm p) = some d → ∀ s, fragIx fb nm (p + 1) s = fragIx fb nm p s := by
        intro d hd s
        by_cases e : nm p = s
        · subst e; rw [hd]; exact fragIx_had hd
        · exact fragIx_same (fun h => e h.2)
      have hno : fb p = false → ∀ s, fragIx fb nm (p + 1) s = fragIx fb nm p s := by
        intro hf s
        exact fragIx_same (fun h => by rw [hf] at h; cases h.1)
      cases hf : fb p with
      | false =>
        have HN : Hid (MapIs Try.prog wr 9 w.heap.size (p + 1) (byStr fun s => ptrTo D (fragIx fb nm (p + 1) s))) := by
          have e : (fun s => ptrTo D (fragIx fb nm (p + 1) s)) = (fun s => ptrTo D (fragIx fb nm p s)) := by funext s; rw [hno hf s]
          rw [e]; exact hmap.mono (by omega)
        rw [hf] at q1
        clear hmap hb' hno hne h hs hf
        go_wp2
        go_roundg (n - (p + 1))
        case measure => rw [HK.out]; omega
        case rel => exact ⟨p + 1, rfl, by omega, by go_num, HN.out, hb⟩
      | true =>
        rw [hf] at q1
        cases hix : fragIx fb nm p (nm p) with
        | some d =>
          have HN : Hid (MapIs Try.prog wr 9 w.heap.size (p + 1) (byStr fun s => ptrTo D (fragIx fb nm (p + 1) s))) := by
            have e : (fun s => ptrTo D (fragIx fb nm (p + 1) s)) = (fun s => ptrTo D (fragIx fb nm p s)) := by funext s; rw [hne d hix s]
            rw [e]; exact hmap.mono (by omega)
          rw [hix] at look
          simp only [ptrTo, Option.map_some, Option.getD_some, Option.isSome_some] at look
          clear hmap hb' hno hne h hs hf hix
          go_wp2
          go_roundg (n - (p + 1))
          case measure => rw [HK.out]; omega
          case rel => exact ⟨p + 1, rfl, by omega, by go_num, HN.out, hb⟩
        | none =>
          obtain ⟨w1, hst, hF, hg⟩ := hmap.storeStr Try.underlying9 Try.underlying96 (by unfold maxLen; omega) hsp (.pointer (some ⟨D p, 0, none⟩))
          have HN : Hid (MapIs Try.prog w1 9 w.heap.size (p + 1) (byStr fun s => ptrTo D (fragIx fb nm (p + 1) s))) := by
            refine hF _ ?_ (fun s' hs' => ?_)
            · rw [fragIx_new hix hf]; rfl
            · rw [fragIx_same (fun h => hs' h.2.symm)]
          have hb1 : Below w.heap.size w w1 := hb.grown hg hb.size (fun k hk => by cases hk; exact Nat.le_refl _)
          rw [hix] at look
          simp only [ptrTo, Option.map_none, Option.getD_none, Option.isSome_none] at look
          clear hmap hb' hno hne h hs hf hix hF hg
          go_wp2
          go_roundg (n - (p + 1))
          case measure => rw [HK.out]; omega
          case rel => exact ⟨p + 1, rfl, by omega, by go_num, HN.out, hb1⟩
    · have e : p = n := by omega
      subst e
      have HM : Hid (MapIs Try.prog wr 9 w.heap.size p (byStr fun s => ptrTo D (fragIx fb nm p s))) := hmap
      clear hmap h hs
      go_wp2
      go_ret
      exact ⟨rfl, HM.out, hb⟩

end Go.Proofs.Qxb6602394a.T
