/-
  (*fieldsMet).add: what is remembered, and what one more add answers and lays.
-/
import Derived.Test.Qxb6602447aWalks1
import Derived.Test.Qxb6602447aMaps
import Derived.Test.Qxb6602447aPlain
import Derived.Laws.Cover3
namespace Go.Proofs.Qxb6602447a.T
open Go.RowKit Go.Maps Go.WideMaps
set_option linter.unusedVariables false

theorem zero3 (w : World) : (zeroValue 3).run Try.prog w = .ok (.int .i64 0) w := by kernel_rfl

def metCells (L : Nat) (a b : Nat → Int) (mv : Option Nat) (c : Nat) : Value :=
  if c < 16 then (if c % 2 = 0 then .int .i64 (a (c / 2)) else .int .i64 (b (c / 2))) else if c = 16 then .int .i64 (L : Int) else .map mv

def intOpt (F : Int → Option Int) (y : Int) : Option Value := (F y).map fun v => .int .i64 v

/-- A fieldsMet at block M that remembers G: L are listed, the others lie in a map of at most n entries. -/
structure Met (w : World) (M n L : Nat) (a b : Nat → Int) (mv : Option Nat) (F G : Int → Option Int) : Prop where
  le : L ≤ 8
  row : w.rowIs M 40 18 (metCells L a b mv)
  few : L < 8 → mv = none
  no : mv = none → ∀ y, F y = none
  map : ∀ mb, mv = some mb → M < mb ∧ MapIs Try.prog w 3 mb n (byInt (intOpt F))
  all : ∀ y, G y = both (scan a b L) F y

theorem Met.kept {w w' : World} {M n L : Nat} {a b : Nat → Int} {mv : Option Nat} {F G : Int → Option Int} (h : Met w M n L a b mv F G) (hb : Below w.heap.size w w') : Met w' M n L a b mv F G :=
  ⟨h.le, World.rowIs.of_block h.row (hb.block _ h.row.lt), h.few, h.no, fun mb e => ⟨(h.map mb e).1, (h.map mb e).2.kept (hb.block _ (h.map mb e).2.lt)⟩, h.all⟩

theorem run_eql_map_nil (w : World) (m : Option Nat) : (binOp .eql 38 (.map m) (.map none)).run Try.prog w = .ok (.bool m.isNone) w := by
  simp only [binOp]
  simp [run_equal_map_nil w 38 3 3 m Try.underlying38]

theorem look_none (w : World) (x : Int) (hx : (Lit.int .i64 x).wf = true) : (Instr.lookup 38 (.map none) (.int .i64 x) true).run Try.prog w = .ok (.tuple #[.int .i64 0, .bool false]) w :=
  Maps.look_nil true (int_keyed Try.underlying3) Try.underlying38 (zero3 w) (keyOf_int_mk Try.underlying3 hx)

theorem Met.had {w : World} {M n L : Nat} {a b : Nat → Int} {mv : Option Nat} {F G : Int → Option Int} (h : Met w M n L a b mv F G) {x v : Int} (hG : G x = some v) (l : Int) : Met w M (n + 1) L a b mv F (more G x l) :=
  ⟨h.le, h.row, h.few, h.no, fun mb e => ⟨(h.map mb e).1, (h.map mb e).2.mono (by omega)⟩, fun y => (more_had hG y).trans (h.all y)⟩

theorem Met.list {w : World} {M n p : Nat} {a b : Nat → Int} {F G : Int → Option Int} (h : Met w M n p a b none F G) {x : Int} (l : Int) (h8 : p < 8) :
    Met (((w.setCell ⟨M, p * 2, none⟩ (.int .i64 x)).setCell ⟨M, p * 2 + 1, none⟩ (.int .i64 l)).setCell ⟨M, 16, none⟩ (.int .i64 ((p : Int) + 1))).drew M (n + 1) (p + 1) (fun j => if j = p then x else a j) (fun j => if j = p then l else b j) none F (more G x l) := by
  refine ⟨by omega, ?_, fun _ => rfl, h.no, fun mb e => (by cases e), fun y => ?_⟩
  · refine World.rowIs.drew (World.rowIs.congr (((h.row.set (p * 2) _).set (p * 2 + 1) _).set 16 _) (fun c hc => ?_))
    by_cases c16 : c = 16
    · subst c16
      simp [metCells]
    · by_cases c0 : c = p * 2
      · subst c0
        simp [metCells, c16, show p * 2 < 16 by omega]
      · by_cases c1 : c = p * 2 + 1
        · subst c1
          have e1 : (p * 2 + 1) / 2 = p := by omega
          have e2 : (p * 2 + 1) % 2 = 1 := by omega
          simp [metCells, c16, show p * 2 + 1 < 16 by omega, e1, e2]
        · have e3 : ¬ c / 2 = p := by omega
          simp [metCells, c16, c0, c1, e3]
  · have hF := h.no rfl
    have e1 : ∀ y, scan (fun j => if j = p then x else a j) (fun j => if j = p then l else b j) p y = scan a b p y := fun y => scan_congr p (fun j hj => by simp [show ¬ j = p by omega]) y
    simp only [both, scan, e1, more, h.all y, hF y]
    cases scan a b p y <;> simp
    split <;> rfl

theorem Met.first {w w2 : World} {M n p : Nat} {a b : Nat → Int} {F G : Int → Option Int} (h : Met w M n p a b none F G) {x : Int} (l : Int) (h8 : ¬ p < 8) (hsc : scan a b p x = none) {mb : Nat} (hmb : M < mb)
    (hk : w2.heap[M]? = w.heap[M]?) (hmap : MapIs Try.prog w2 3 mb (n + 1) (byInt (intOpt fun y => if x = y then some l else none))) :
    Met (w2.setCell ⟨M, 17, none⟩ (.map (some mb))) M (n + 1) p a b (some mb) (fun y => if x = y then some l else none) (more G x l) := by
  refine ⟨h.le, ?_, fun e => absurd e h8, fun e => (by cases e), fun mb' e => ?_, fun y => ?_⟩
  · refine World.rowIs.congr ((World.rowIs.of_block h.row hk).set 17 _) (fun c hc => ?_)
    by_cases c17 : c = 17
    · subst c17
      simp [metCells]
    · have : c < 16 ∨ c = 16 := by omega
      rcases this with e | e <;> simp [metCells, c17, e]
  · cases e
    exact ⟨hmb, hmap.kept (Below.heap_setCell _ _ _ _ (by show mb ≠ M; omega))⟩
  · have hF := h.no rfl
    simp only [both, more, h.all y, hF y]
    cases scan a b p y <;> rfl

theorem Met.put {w w2 : World} {M n p : Nat} {a b : Nat → Int} {mb : Nat} {F G : Int → Option Int} (h : Met w M n p a b (some mb) F G) {x : Int} (l : Int) (hsc : scan a b p x = none) (hFx : F x = none)
    (hk : w2.heap[M]? = w.heap[M]?) (hmap : MapIs Try.prog w2 3 mb (n + 1) (byInt (intOpt (more F x l)))) :
    Met w2 M (n + 1) p a b (some mb) (more F x l) (more G x l) := by
  refine ⟨h.le, World.rowIs.of_block h.row hk, h.few, fun e => (by cases e), fun mb' e => ?_, fun y => ?_⟩
  · cases e
    exact ⟨(h.map mb rfl).1, hmap⟩
  · simp only [both, more, h.all y]
    cases e : scan a b p y <;> rfl

set_option maxRecDepth 100000 in
set_option maxHeartbeats 1600000 in
theorem add_any (M n L : Nat) (a b : Nat → Int) (mv : Option Nat) (F G : Int → Option Int) (x l : Int) (w : World) (hn : n < maxLen) (hx : (Lit.int .i64 x).wf = true) (h : Met w M n L a b mv F G) :
    Calls Try.prog 27 #[.pointer (some ⟨M, 0, none⟩), .int .i64 x, .int .i64 l] w fun e w' =>
      e = .returned (.tuple #[.int .i64 ((G x).getD 0), .bool (G x).isSome]) ∧ (∃ L' a' b' mv' F', Met w' M (n + 1) L' a' b' mv' F' (more G x l)) ∧ Below M w w' := by
  have c16 : w.cell? ⟨M, 16, none⟩ = some (.int .i64 (L : Int)) := h.row.cell (show 16 < 18 by omega)
  have hL8 := h.le
  have hMw : M ≤ w.heap.size := Nat.le_of_lt h.row.lt
  have i1 : (0 : Int) ≤ (L : Int) := by omega
  have i2 : (L : Int) ≤ 8 := by omega
  go_enter Try.func27, Try.ntmps27
  go_wp2
  go_quiet (fail)
  go_wp2
  clear c16
  go_loopg [19] L (fun k i wr => ∃ p : Nat, k = L - p ∧ p ≤ L ∧ i = .int .i64 p ∧ scan a b p x = none ∧ Below w.heap.size w wr)
  case atStart => exact ⟨0, rfl, Nat.zero_le _, rfl, rfl, below_drewN (Below.refl _ _) _⟩
  case round =>
    obtain ⟨p, hk, hpL, rfl, hsc, hb⟩ := hrel
    have HK : Hid (gk = L - p) := hk
    clear hk
    have hm := h.kept hb
    by_cases hlt : p < L
    · have c0 : wr.cell? ⟨M, p * 2, none⟩ = some (.int .i64 (a p)) := by
        rw [hm.row.cell (show p * 2 < 18 by omega)]
        simp [metCells, show p * 2 < 16 by omega]
      have c1 : wr.cell? ⟨M, p * 2 + 1, none⟩ = some (.int .i64 (b p)) := by
        rw [hm.row.cell (show p * 2 + 1 < 18 by omega)]
        have e1 : (p * 2 + 1) / 2 = p := by omega
        have e2 : (p * 2 + 1) % 2 = 1 := by omega
        simp [metCells, show p * 2 + 1 < 16 by omega, e1, e2]
      by_cases hap : a p = x
      · have hG : G x = some (b p) := by rw [h.all x]; simp only [both, scan_had (scan_hit hsc hap) L (by omega)]
        have HG : Hid (G x = some (b p)) := hG
        have HM : Hid (Met wr M n L a b mv F G) := hm
        clear hm h hG hsc
        go_wp2
        go_ret2
        exact ⟨by rw [HG.out]; rfl, ⟨L, a, b, mv, F, (HM.out.kept ((Below.refl _ _).alloc (Nat.le_refl _) _)).had HG.out l⟩, (hb.mono hMw).alloc (by have := hb.size; omega) _⟩
      · have HS := scan_miss hsc hap
        have HM : Hid (Met wr M n L a b mv F G) := hm
        clear hm hsc
        go_wp2
        go_roundg (L - (p + 1))
        case measure => rw [HK.out]; omega
        case rel => 
          refine ⟨p + 1, rfl, by omega, by go_num, HS, ?_⟩
          exact hb.alloc hb.size _
    · have e : p = L := by omega
      subst e
      have c16 : wr.cell? ⟨M, 16, none⟩ = some (.int .i64 (p : Int)) := hm.row.cell (show 16 < 18 by omega)
      have z16 := hm.row.frozen 16
      have c17 : wr.cell? ⟨M, 17, none⟩ = some (.map mv) := hm.row.cell (show 17 < 18 by omega)
      have z17 := hm.row.frozen 17
      have q := run_eql_map_nil
      cases hmv : mv with
      | none =>
        subst hmv
        have ln := fun w => look_none w x hx
        have hFx := hm.no rfl
        by_cases h8 : p < 8
        · have d0 := hm.row.cell (show p * 2 < 18 by omega)
          have d1 := hm.row.cell (show p * 2 + 1 < 18 by omega)
          have z0 := hm.row.frozen (p * 2)
          have z1 := hm.row.frozen (p * 2 + 1)
          have HM : Hid (Met wr M n p a b none F G) := hm
          have HS : Hid (scan a b p x = none) := hsc
          have i3 : (p : Int) < 8 := by omega
          clear hm h hsc hFx
          go_wp2
          have keep16 : ∀ u v, ((wr.setCell ⟨M, p * 2, none⟩ u).setCell ⟨M, p * 2 + 1, none⟩ v).drew.cell? ⟨M, 16, none⟩ = some (.int .i64 (p : Int)) := fun u v => by
            have e1 : (⟨M, p * 2, none⟩ : Addr) ≠ ⟨M, 16, none⟩ := by intro h; injection h; omega
            have e2 : (⟨M, p * 2 + 1, none⟩ : Addr) ≠ ⟨M, 16, none⟩ := by intro h; injection h; omega
            rw [World.cell?_drew, World.cell?_setCell_other (h := e2), World.cell?_setCell_other (h := e1), c16]
          go_region_held3 (fun w' => w'.cell? ⟨M, 16, none⟩ = some (.int .i64 (p : Int))) (first | exact keep16 _ _ | go_keep) (fail)
          go_wp2
          go_ret2
          have hG : G x = none := by rw [HM.out.all x]; simp only [both, HS.out]; exact HM.out.no rfl x
          exact ⟨by rw [hG]; rfl, ⟨_, _, _, _, _, HM.out.list l h8⟩, ((((hb.mono hMw).setCell (Nat.le_refl _) _).setCell (Nat.le_refl _) _).setCell (Nat.le_refl _) _).drew⟩
        · have hmm := @run_makeMap Try.prog
          have hMr := hm.row.lt
          have hmade : MapIs Try.prog (wr.alloc (.map #[] 0)) 3 wr.heap.size n (byInt (intOpt F)) := ((MapIs.made Try.prog wr 3).congr (fun kl _ => by
            cases kl with
            | int kd y => cases kd <;> first | rfl | (show _ = (F y).map _; rw [hFx y]; rfl)
            | _ => rfl)).mono (Nat.zero_le _)
          obtain ⟨w2, hst, hF, hg⟩ := hmade.storeInt Try.underlying3 Try.underlying38 hn hx (.int .i64 l)
          have hk2 : w2.heap[M]? = wr.heap[M]? := (hg.block M (by simp; omega) (by simp; omega)).trans (Below.heap_alloc _ _ _ hMr)
          have hmap2 : MapIs Try.prog w2 3 wr.heap.size (n + 1) (byInt (intOpt fun y => if x = y then some l else none)) := hF _ (by simp [intOpt]) (fun y hy => by simp [intOpt, hFx y, Ne.symm hy])
          have c17b : w2.cell? ⟨M, 17, none⟩ = some (.map none) := (World.cell?_of_block (w := wr) hk2).trans c17
          have z17b : w2.frozen? ⟨M, 17, none⟩ = false := (World.frozen?_of_block (w := wr) hk2).trans z17
          have hb2 : Below M w w2 := ((hb.mono hMw).alloc (by have := hb.size; omega) _).grown hg (by simp; omega) (fun k e => by cases e; omega)
          have HM : Hid (Met wr M n p a b none F G) := hm
          have HS : Hid (scan a b p x = none) := hsc
          have HMap : Hid (MapIs Try.prog w2 3 wr.heap.size (n + 1) (byInt (intOpt fun y => if x = y then some l else none))) := hmap2
          clear hm h hsc hFx hmade hF hg hmap2
          go_wp2
          go_ret2
          have hG : G x = none := by rw [HM.out.all x]; simp only [both, HS.out]; exact HM.out.no rfl x
          exact ⟨by rw [hG]; rfl, ⟨_, _, _, _, _, HM.out.first l h8 HS.out hMr hk2 HMap.out⟩, hb2.setCell (Nat.le_refl _) _⟩
      | some mb => 
        subst hmv
        have h8 : ¬ p < 8 := fun e => by have := hm.few e; cases this
        obtain ⟨hMmb, hmap⟩ := hm.map mb rfl
        have look := hmap.lookInt_ok Try.underlying3 Try.underlying38 (zero3 wr) hx
        have hMr := hm.row.lt
        cases hFx : F x with
        | some v =>
          simp only [intOpt, hFx, Option.map_some, Option.getD_some, Option.isSome_some] at look
          have HM : Hid (Met wr M n p a b (some mb) F G) := hm
          have HG : Hid (G x = some v) := by show G x = some v; rw [hm.all x]; simp only [both, hsc, hFx]
          clear hm h hsc hmap hFx
          go_wp2
          go_ret2
          exact ⟨by rw [HG.out]; rfl, ⟨_, _, _, _, _, HM.out.had HG.out l⟩, hb.mono hMw⟩
        | none =>
          simp only [intOpt, hFx, Option.map_none, Option.getD_none, Option.isSome_none] at look
          obtain ⟨w2, hst, hF, hg⟩ := hmap.storeInt Try.underlying3 Try.underlying38 hn hx (.int .i64 l)
          have hk2 : w2.heap[M]? = wr.heap[M]? := hg.block M hMr (by simp; omega)
          have hmap2 : MapIs Try.prog w2 3 mb (n + 1) (byInt (intOpt (more F x l))) := hF _ (by simp [intOpt, more, hFx]) (fun y hy => by
            have e : more F x l y = F y := by unfold more; cases F y <;> simp [Ne.symm hy]
            simp only [intOpt, e])
          have hb2 : Below M w w2 := (hb.mono hMw).grown hg (Nat.le_of_lt hMr) (fun k e => by cases e; omega)
          have HM : Hid (Met wr M n p a b (some mb) F G) := hm
          have HS : Hid (scan a b p x = none) := hsc
          have HFx : Hid (F x = none) := hFx
          have HMap : Hid (MapIs Try.prog w2 3 mb (n + 1) (byInt (intOpt (more F x l)))) := hmap2
          clear hm h hsc hFx hmap hF hg hmap2
          go_wp2
          go_ret2
          have hG : G x = none := by rw [HM.out.all x]; simp only [both, HS.out]; exact HFx.out
          exact ⟨by rw [hG]; rfl, ⟨_, _, _, _, _, HM.out.put l HS.out HFx.out hk2 HMap.out⟩, hb2⟩

end Go.Proofs.Qxb6602447a.T
