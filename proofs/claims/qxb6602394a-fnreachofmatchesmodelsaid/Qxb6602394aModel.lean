/-
  b1BuildTreeModel: the whole walk.
-/
import Derived.Test.Qxb6602394aModelBase
namespace Go.Proofs.Qxb6602394a.T
open Go.RowKit
set_option linter.unusedVariables false

set_option maxRecDepth 100000 in
set_option maxHeartbeats 3200000 in
theorem model_any (a0 : Option Addr) (n c0 : Nat) (a1 : Option Addr) (c1 : Nat) (a2 : Option Addr) (c2 : Nat) (A2 : Nat → Option Addr) (m C2 : Nat → Nat) (a4 : Option Addr) (c4 : Nat) (A4 : Nat → Option Addr) (C4 : Nat → Nat)
    (fb : Nat → Bool) (nm : Nat → ByteArray) (par : Nat → Nat → Int) (fg : Nat → Nat → ByteArray) (w : World) (hn : n ≤ 4096) (hall : first m n ≤ 4096)
    (h0 : RowAt w a0 n (fun i => .bool (fb i))) (h1 : RowAt w a1 n (fun i => .string (nm i))) (h2 : RowsAt w a2 n A2 m C2 (fun i j => .int .i64 (par i j))) (h4 : RowsAt w a4 n A4 m C4 (fun i j => .string (fg i j))) :
    Calls Try.prog 15 #[.slice a0 n c0, .slice a1 n c1, .slice a2 n c2, .slice a4 n c4] w fun e w' => ∃ vo vl RB FB HB RV HV, e = .returned (.agg #[.int .i64 (first m n : Int), vo, vl, rowOf FB (first m n), rowOf HB (first m n), rowOf RB n]) ∧ ModelAt w' m par n RB FB HB vo vl RV HV (spreadOf fb nm m fg n) ∧ Below w.heap.size w w' := by
  go_enter Try.func15, Try.ntmps15
  go_wp2
  go_loopg [10, 11] n (fun k i _ wr => ∃ q : Nat, ∃ V : Nat → Value, k = n - q ∧ q ≤ n ∧ i = .int .i64 q ∧ Ph1 w wr m n (first m q) (first m q) V)
  case atStart => exact ⟨0, _, rfl, Nat.zero_le _, rfl, Ph1.start w m n⟩
  case round =>
    obtain ⟨q, V, hk, hqn, rfl, hP⟩ := hrel
    have HK := hide hk
    clear hk
    by_cases hq : q < n
    · as_aux_lemma =>
      obtain ⟨b2, o2, rfl, k2⟩ := h2.outer q hq
      have j2 := h2.inner q hq
      have HP := hide hP
      have hmq : m q ≤ first m n := by
        have := first_mono (m := m) (show q + 1 ≤ n by omega)
        rw [first_succ] at this; omega
      clear hP
      go_wp2
      obtain ⟨wo, rfl⟩ : ∃ wo : World, wo = wr := ⟨_, rfl⟩
      obtain ⟨g0, rfl⟩ : ∃ g0 : Nat, g0 = gk := ⟨_, rfl⟩
      go_loopg [11] (m q) (fun k i wr => ∃ j : Nat, ∃ V : Nat → Value, k = m q - j ∧ j ≤ m q ∧ i = .int .i64 j ∧ Ph1 w wr m n (first m q + j) (first m q + j) V)
      case atStart => exact ⟨0, V, rfl, Nat.zero_le _, rfl, HP.out⟩
      case round =>
        clear HP V
        obtain ⟨j, V, hk2, hjm, rfl, hP⟩ := hrel
        have HK2 := hide hk2
        clear hk2
        have q2 : wr.cell? ⟨b2, o2 + q, none⟩ = some (.slice (A2 q) (m q) (C2 q)) := (hP.below.cell (lt_of_cell k2)).trans k2
        by_cases hj : j < m q
        · have b1 := hP.b.cell (show 1 < 6 by omega)
          have z1 := hP.b.frozen 1
          simp only [mCells] at b1
          have hs2 := hP.top
          have b1' : ∀ o, (wr.alloc o).cell? ⟨w.heap.size + 1, 1, none⟩ = some (V 0) := fun o => (World.cell?_of_block (w := wr) (Below.heap_alloc _ _ _ (by show w.heap.size + 1 < _; omega))).trans b1
          have hle := place_lt (m := m) hq hj
          have HP := hide hP
          have hown0 : Owns (wr.alloc (.cells #[.int .i64 (q : Int)] 3)) (w.heap.size + 2) (V 0) (ownersTo m n (first m q + j)) := ((hP.ls.alloc _).owns 0 (by omega))
          have hB : (wr.alloc (.cells #[.int .i64 (q : Int)] 3)).cell? ⟨wr.heap.size, 0, none⟩ = some (.int .i64 (q : Int)) := by simp
          have HO := hide hown0
          have HB := hide hB
          clear hP hown0 hB
          go_upto_region 9 with (first
            | (at_builtin; refine wpList_app _ rfl _ _ rfl (w.heap.size + 2) (V 0) (ownersTo m n (first m q + j)) q rfl HO.out wr.heap.size rfl HB.out (by rw [ownersTo_length]; omega) (by simp; omega) ?_; intro g cap w1 hown hgrow hat hlt; have x3 := (HP.out.grown _ (show 0 < 2 by omega) hgrow).2.2.1; have y1 := x3.cell (show 1 < 6 by omega); have y2 := x3.frozen 1; simp only [mCells] at y1; have HN := hide (HP.out.app0 _ (by rw [own_eq n q j hq hj]) hown hgrow hat); clear hown hgrow hat hlt x3))
          obtain ⟨wa, hwa⟩ : ∃ wa, wa = w1.setCell ⟨w.heap.size + 1, 1, none⟩ (.slice (some ⟨g, 0, none⟩) ((ownersTo m n (first m q + j)).length + 1) cap) := ⟨_, rfl⟩
          have hP := HN.out
          rw [← hwa] at hP
          rw [← hwa]
          clear HN HP HO HB y1 y2 b1 b1' z1 hs2 hwa q2
          generalize hV : (fun k => if k = 0 then Value.slice (some ⟨g, 0, none⟩) ((ownersTo m n (first m q + j)).length + 1) cap else V k) = V' at hP
          clear hV
          have b1 := hP.b.cell (show 2 < 6 by omega)
          have z1 := hP.b.frozen 2
          simp only [mCells] at b1
          have hs2 := hP.top
          have b1' : ∀ o, (wa.alloc o).cell? ⟨w.heap.size + 1, 2, none⟩ = some (V' 1) := fun o => (World.cell?_of_block (w := wa) (Below.heap_alloc _ _ _ (by show w.heap.size + 1 < _; omega))).trans b1
          have HP := hide hP
          have hown0 : Owns (wa.alloc (.cells #[.int .i64 (j : Int)] 3)) (w.heap.size + 2) (V' 1) (localsTo m n (first m q + j)) := ((hP.ls.alloc _).owns 1 (by omega))
          have hB : (wa.alloc (.cells #[.int .i64 (j : Int)] 3)).cell? ⟨wa.heap.size, 0, none⟩ = some (.int .i64 (j : Int)) := by simp
          have HO := hide hown0
          have HB := hide hB
          clear hP hown0 hB
          go_wp2_with (first
            | (at_builtin; refine wpList_app _ rfl _ _ rfl (w.heap.size + 2) (V' 1) (localsTo m n (first m q + j)) j rfl HO.out wa.heap.size rfl HB.out (by rw [localsTo_length]; omega) (by simp; omega) ?_; intro g1 cap1 w2 hown hgrow hat hlt; have x3 := (HP.out.grown _ (show 1 < 2 by omega) hgrow).2.2.1; have y1 := x3.cell (show 2 < 6 by omega); have y2 := x3.frozen 2; simp only [mCells] at y1; have HN := hide (HP.out.app1 _ (by rw [loc_eq hq hj]) hown hgrow hat); clear hown hgrow hat hlt x3))
          go_roundg (m q - (j + 1))
          case measure => rw [HK2.out]; omega
          case rel => exact ⟨j + 1, _, rfl, by omega, by go_num, HN.out⟩
        · have ej : j = m q := by omega
          have hP' : Ph1 w wr m n (first m (q + 1)) (first m (q + 1)) V := by rw [first_succ, ← ej]; exact hP
          have HP' := hide hP'
          clear hP hP' ej
          go_wp2
          go_roundg (n - (q + 1))
          case measure => rw [HK.out]; omega
          case rel => exact ⟨q + 1, V, rfl, by omega, by go_num, HP'.out⟩
    · have eq : q = n := by omega
      subst eq
      obtain ⟨ao, co, hvo, _⟩ := (hP.ls.owns 0 (by omega)).listAt.row
      simp only [if_true, ownersTo_length] at hvo
      have b1 := hP.b.cell (show 1 < 6 by omega)
      have b0 := hP.b.cell (show 0 < 6 by omega)
      have b5 := hP.b.cell (show 5 < 6 by omega)
      have z0 := hP.b.frozen 0
      have z5 := hP.b.frozen 5
      simp only [mCells] at b0 b1 b5
      rw [hvo] at b1
      have hmk := run_make_row' (P := Try.prog) 24 32 (.slice none 0 0) 24 Try.underlying24 info32 rfl .i64 .i64 q (by omega) (by omega)
      have ht := hP.top
      have b5' : ∀ v o, ((wr.setCell ⟨w.heap.size + 1, 0, none⟩ v).alloc o).cell? ⟨w.heap.size + 1, 5, none⟩ = some nilS := fun v o => by
        have h1 := ((hP.b.set 0 v).alloc o).cell (show 5 < 6 by omega)
        simpa [mCells] using h1
      have z5' : ∀ v o, ((wr.setCell ⟨w.heap.size + 1, 0, none⟩ v).alloc o).frozen? ⟨w.heap.size + 1, 5, none⟩ = false := fun v o => ((hP.b.set 0 v).alloc o).frozen 5
      have hs0 : ∀ v, (wr.setCell ⟨w.heap.size + 1, 0, none⟩ v).heap.size = wr.heap.size := fun v => by simp [World.setCell]
      have HP2 := hide (Ph2.start (par := par) hP)
      clear hP
      go_wp2
      have hP2 := HP2.out
      obtain ⟨al, cl, hvl, _⟩ := hP2.l.row
      rw [localsTo_length] at hvl
      rw [hvo, hvl] at hP2
      clear HP2 b0 b1 b5 hmk b5' z5' hs0 ht z0 z5 hvo hvl
      obtain ⟨RB, hRB⟩ : ∃ RB, RB = wr.heap.size := ⟨_, rfl⟩
      rw [← hRB] at hP2
      rw [← hRB]
      clear hRB
      go_loopg [12, 13, 14] q (fun k i _ _ wr => ∃ d : Nat, ∃ RV : Nat → Value, k = q - d ∧ d ≤ q ∧ i = .int .i64 d ∧ Ph2 w wr m par q RB (.slice ao (first m q) co) (.slice al (first m q) cl) RV d)
      case atStart => exact ⟨0, _, rfl, Nat.zero_le _, rfl, hP2⟩
      case round =>
        clear hP2
        obtain ⟨d, RV, hk, hdq, rfl, hP⟩ := hrel
        have HK := hide hk
        clear hk
        by_cases hd : d < q
        · have b0 := hP.b.cell (show 0 < 6 by omega)
          simp only [mCells] at b0
          have HP := hide hP
          clear hP
          go_wp2
          obtain ⟨wo, rfl⟩ : ∃ wo : World, wo = wr := ⟨_, rfl⟩
          obtain ⟨g0, rfl⟩ : ∃ g0 : Nat, g0 = gk := ⟨_, rfl⟩
          go_loopg [13, 14] (first m q) (fun k v i wr => ∃ x : Nat, ∃ va vn vc, k = first m q - x ∧ x ≤ first m q ∧ i = .int .i64 x ∧ v = .slice va vn vc ∧ Owns wr wo.heap.size (.slice va vn vc) (rootsTo m par q x d) ∧ Below wo.heap.size wo wr)
          case atStart => exact ⟨0, none, 0, 0, rfl, Nat.zero_le _, rfl, rfl, ⟨World.ownsRow_nil _ _ _ _, fun _ => rfl⟩, Below.refl _ _⟩
          case round =>
            obtain ⟨x, va, vn, vc, hk2, hx, rfl, rfl, hO, hb⟩ := hrel
            have HK2 := hide hk2
            clear hk2
            have hP := HP.out.kept hb
            have c0 := hP.b.cell (show 0 < 6 by omega)
            simp only [mCells] at c0
            by_cases hxl : x < first m q
            · as_aux_lemma =>
              have c1 := hP.b.cell (show 1 < 6 by omega)
              have c2 := hP.b.cell (show 2 < 6 by omega)
              simp only [mCells] at c1 c2
              obtain ⟨bo, oo, rfl, ko⟩ := owners_row hP.o x hxl
              obtain ⟨bl, ol, rfl, kl⟩ := locals_row hP.l x hxl
              obtain ⟨b2, o2, rfl, k2⟩ := h2.outer d hd
              have q2 : wr.cell? ⟨b2, o2 + d, none⟩ = some (.slice (A2 d) (m d) (C2 d)) := (hP.below.cell (lt_of_cell k2)).trans k2
              have qo : wr.cell? ⟨bo, oo + x, none⟩ = some (.int .i64 (own m q x : Int)) := ko
              have ql : wr.cell? ⟨bl, ol + x, none⟩ = some (.int .i64 (loc m q x : Int)) := kl
              have xi0 : (0 : Int) ≤ (x : Int) := by omega
              have xi1 : (x : Int) < (first m q : Int) := by omega
              have di0 : (0 : Int) ≤ (d : Int) := by omega
              have di1 : (d : Int) < (q : Int) := by omega
              have hll := loc_lt hxl
              by_cases hod : own m q x = d
              · rw [hod] at qo hll
                obtain ⟨b3, o3, e3, k3⟩ := h2.inner d hd (loc m q x) hll.1
                have q3 : wr.cell? ⟨b3, o3 + loc m q x, none⟩ = some (.int .i64 (par d (loc m q x))) := (hP.below.cell (lt_of_cell k3)).trans k3
                rw [e3] at q2
                have li0 : (0 : Int) ≤ (loc m q x : Int) := by omega
                have li1 : (loc m q x : Int) < (m d : Int) := by omega
                by_cases hneg : par d (loc m q x) < 0
                · have HR := hide (rootsTo_yes ⟨hod, hneg⟩)
                  generalize loc m q x = lx at *
                  generalize par d lx = px at *
                  have HO := hide hO
                  have hwo := hb.size
                  clear hP hO ko kl k2 k3 e3 hll hod h2 h4 h0 h1 HP b0
                  go_wp2
                  go_quiet (fail)
                  go_upto_region 20 with fail
                  obtain ⟨wd, hwd⟩ : ∃ wd, wd = wr.drewN nq := ⟨_, rfl⟩
                  have hOd : Owns wd wo.heap.size (.slice va vn vc) (rootsTo m par q x d) := by rw [hwd]; exact HO.out.kept (fun _ _ _ => rfl)
                  have hbd : Below wo.heap.size wo wd := by rw [hwd]; exact below_drewN hb _
                  rw [← hwd]
                  have HOd := hide hOd
                  have HOa := hide (hOd.below ((Below.refl _ _).alloc (Nat.le_refl _) (.cells #[.int .i64 (x : Int)] 3)))
                  have HBa : Hid ((wd.alloc (.cells #[.int .i64 (x : Int)] 3)).cell? ⟨wd.heap.size, 0, none⟩ = some (.int .i64 (x : Int))) := by show _ = _; simp
                  have hws := hbd.size
                  clear hwd hOd HO hwo hb c1 c2 qo q2 ql q3
                  go_wp2_with (first
                    | (at_builtin; refine wpList_app _ rfl _ _ rfl wo.heap.size _ (rootsTo m par q x d) x rfl HOa.out wd.heap.size rfl HBa.out (Nat.le_trans (rootsTo_length _ _ _ _ _) (by omega)) (by simp; omega) ?_; intro g cap w1 hown hgrow hat hlt; have HN := hide (app_below _ HOd.out hbd hws hown hgrow); clear hown hgrow hat hlt))
                  go_roundg (first m q - (x + 1))
                  case measure => rw [HK2.out]; omega
                  case rel => exact ⟨x + 1, _, _, _, rfl, by omega, by go_num, rfl, by rw [HR.out]; exact HN.out.1, HN.out.2⟩
                · have HR := hide (rootsTo_no (m := m) (par := par) (n := q) (x := x) (d := d) (fun h => hneg h.2))
                  generalize loc m q x = lx at *
                  generalize par d lx = px at *
                  have HO := hide hO
                  clear hP hO ko kl k2 k3 e3 hll hod h2 h4 h0 h1 HP b0
                  go_wp2
                  go_quiet (fail)
                  go_wp2
                  go_roundg (first m q - (x + 1))
                  case measure => rw [HK2.out]; omega
                  case rel => exact ⟨x + 1, _, _, _, rfl, by omega, by go_num, rfl, by rw [HR.out]; exact HO.out.kept (fun _ _ _ => rfl), below_drewN hb _⟩
              · have HR := hide (rootsTo_no (m := m) (par := par) (n := q) (x := x) (d := d) (fun h => hod h.1))
                have hne : ¬ (own m q x : Int) = (d : Int) := by omega
                generalize own m q x = ox at *
                have HO := hide hO
                clear hP hO ko kl k2 hll hod h2 h4 h0 h1 HP b0
                go_wp2
                go_quiet (fail)
                go_wp2
                go_roundg (first m q - (x + 1))
                case measure => rw [HK2.out]; omega
                case rel => exact ⟨x + 1, _, _, _, rfl, by omega, by go_num, rfl, by rw [HR.out]; exact HO.out.kept (fun _ _ _ => rfl), below_drewN hb _⟩
            · have ex : x = first m q := by omega
              subst ex
              have b5 := hP.b.cell (show 5 < 6 by omega)
              simp only [mCells] at b5
              have r1 := hP.r.cell hd
              have z1 := hP.r.frozen d
              have HN := hide (hP.put hO.listAt (fun g e => Nat.lt_of_lt_of_le HP.out.r.lt (hO.off g e).1))
              have di0 : (0 : Int) ≤ (d : Int) := by omega
              have di1 : (d : Int) < (q : Int) := by omega
              clear hP HP
              go_wp2
              go_roundg (q - (d + 1))
              case measure => rw [HK.out]; omega
              case rel => exact ⟨d + 1, _, rfl, by omega, by go_num, HN.out⟩
        · have ed : d = q := by omega
          subst ed
          have b0 := hP.b.cell (show 0 < 6 by omega)
          have b3 := hP.b.cell (show 3 < 6 by omega)
          have z3 := hP.b.frozen 3
          simp only [mCells] at b0 b3
          have hmk1 := run_make_row' (P := Try.prog) 32 3 (.int .i64 0) 8 Try.underlying32 info3 rfl .i64 .i64 (first m d) (by omega) (by omega)
          have hmk2 := run_make_row' (P := Try.prog) 24 32 (.slice none 0 0) 24 Try.underlying24 info32 rfl .i64 .i64 (first m d) (by omega) (by omega)
          have b3' : ∀ o, (wr.alloc o).cell? ⟨w.heap.size + 1, 3, none⟩ = some nilS := fun o => ((hP.b.alloc o).cell (show 3 < 6 by omega))
          have z3' : ∀ o, (wr.alloc o).frozen? ⟨w.heap.size + 1, 3, none⟩ = false := fun o => (hP.b.alloc o).frozen 3
          have b0' : ∀ o v, ((wr.alloc o).setCell ⟨w.heap.size + 1, 3, none⟩ v).cell? ⟨w.heap.size + 1, 0, none⟩ = some (.int .i64 (first m d : Int)) := fun o v => ((hP.b.alloc o).set 3 v).cell (show 0 < 6 by omega)
          have b4' : ∀ o v o2, (((wr.alloc o).setCell ⟨w.heap.size + 1, 3, none⟩ v).alloc o2).cell? ⟨w.heap.size + 1, 4, none⟩ = some nilS := fun o v o2 => (((hP.b.alloc o).set 3 v).alloc o2).cell (show 4 < 6 by omega)
          have z4' : ∀ o v o2, (((wr.alloc o).setCell ⟨w.heap.size + 1, 3, none⟩ v).alloc o2).frozen? ⟨w.heap.size + 1, 4, none⟩ = false := fun o v o2 => (((hP.b.alloc o).set 3 v).alloc o2).frozen 4
          have hs0 : ∀ o v, ((wr.alloc o).setCell ⟨w.heap.size + 1, 3, none⟩ v).heap.size = wr.heap.size + 1 := fun o v => by simp [World.setCell]
          have HP3 := hide (Ph3.start hP (spreadOf fb nm m fg d))
          clear hP b3 z3
          go_wp2
          have hP3 := HP3.out
          clear HP3 b0 hmk1 hmk2 b3' z3' b0' b4' z4' hs0
          obtain ⟨FB, hFB⟩ : ∃ FB, FB = wr.heap.size := ⟨_, rfl⟩
          obtain ⟨HB, hHB⟩ : ∃ HB, HB = wr.heap.size + 1 := ⟨_, rfl⟩
          rw [← hHB, ← hFB] at hP3
          rw [← hHB, ← hFB]
          clear hFB hHB
          go_loopg [15, 16, 17, 18, 19] (first m d) (fun k i _ _ _ _ wr => ∃ x : Nat, ∃ HV : Nat → Value, k = first m d - x ∧ x ≤ first m d ∧ i = .int .i64 x ∧ Ph3 w wr m par d RB FB HB (.slice ao (first m d) co) (.slice al (first m d) cl) RV HV (spreadOf fb nm m fg d) x x)
          case atStart => exact ⟨0, _, rfl, Nat.zero_le _, rfl, hP3⟩
          case round =>
            clear hP3
            obtain ⟨x, HV, hk, hx, rfl, hP⟩ := hrel
            have HK := hide hk
            clear hk
            have b0 := hP.b.cell (show 0 < 6 by omega)
            simp only [mCells] at b0
            by_cases hxl : x < first m d
            · as_aux_lemma =>
              have b1 := hP.b.cell (show 1 < 6 by omega)
              have b2 := hP.b.cell (show 2 < 6 by omega)
              have b3 := hP.b.cell (show 3 < 6 by omega)
              simp only [mCells] at b1 b2 b3
              obtain ⟨bo, oo, rfl, ko⟩ := owners_row hP.o x hxl
              obtain ⟨bl, ol, rfl, kl⟩ := locals_row hP.l x hxl
              have how := own_lt d x hxl
              have hlw := loc_lt hxl
              obtain ⟨b4, o4, rfl, k4⟩ := h4.outer (own m d x) how.1
              obtain ⟨b5, o5, e5, k5⟩ := h4.inner (own m d x) how.1 (loc m d x) hlw.1
              have hb' : ∀ {a : Addr} {v : Value}, w.cell? a = some v → wr.cell? a = some v := fun h => (hP.below.cell (lt_of_cell h)).trans h
              have q4 : wr.cell? ⟨b4, o4 + own m d x, none⟩ = some (.slice (A4 (own m d x)) (m (own m d x)) (C4 (own m d x))) := hb' k4
              rw [e5] at q4
              have q5 : wr.cell? ⟨b5, o5 + loc m d x, none⟩ = some (.string (fg (own m d x) (loc m d x))) := hb' k5
              have qo : wr.cell? ⟨bo, oo + x, none⟩ = some (.int .i64 (own m d x : Int)) := ko
              have ql : wr.cell? ⟨bl, ol + x, none⟩ = some (.int .i64 (loc m d x : Int)) := kl
              have h0r : RowAt wr a0 d (fun i => .bool (fb i)) := h0.below (hP.below.mono (Nat.le_refl _))
              have h1r : RowAt wr a1 d (fun i => .string (nm i)) := h1.below (hP.below.mono (Nat.le_refl _))
              have H0 : ∀ z, Hid (RowAt (wr.drewN z) a0 d (fun i => .bool (fb i))) := fun z => h0r
              have H1 : ∀ z, Hid (RowAt (wr.drewN z) a1 d (fun i => .string (nm i))) := fun z => h1r
              have xi0 : (0 : Int) ≤ (x : Int) := by omega
              have xi1 : (x : Int) < (first m d : Int) := by omega
              have oi0 : (0 : Int) ≤ (own m d x : Int) := by omega
              have oi1 : (own m d x : Int) < (d : Int) := by omega
              have li0 : (0 : Int) ≤ (loc m d x : Int) := by omega
              have li1 : (loc m d x : Int) < (m (own m d x) : Int) := by omega
              have HP := hide hP
              have H2 := hide h2
              clear hb' hP h0r h1r h0 h1 h2 h4 k4 k5 e5 ko kl
              go_wp2
              go_quiet (first | (go_at_call 35; exact Calls.quiet_of_same ((named_any a0 d _ a1 _ fb nm _ _ hn (H0 _).out (H1 _).out).mono fun e w' h => ⟨h.1, h.2.symm⟩)))
              go_upto_region 29 with fail
              obtain ⟨fx, hfx⟩ : ∃ fx, fx = fragNamed fb nm d (fg (own m d x) (loc m d x)) := ⟨_, rfl⟩
              have HF : Hid (spreadOf fb nm m fg d x = fx) := by rw [hfx]; rfl
              rw [← hfx]
              clear hfx H0 H1 q4 q5
              obtain ⟨wd, hwd⟩ : ∃ wd, wd = wr.drewN nq := ⟨_, rfl⟩
              have hPd : Ph3 w wd m par d RB FB HB (.slice (some ⟨bo, oo, none⟩) (first m d) co) (.slice (some ⟨bl, ol, none⟩) (first m d) cl) RV HV (spreadOf fb nm m fg d) x x := by rw [hwd]; exact HP.out.kept (below_drewN (Below.refl _ _) _)
              rw [← hwd]
              clear hwd HP b0 b1 b2 b3 qo ql
              have b3 := hPd.b.cell (show 3 < 6 by omega)
              simp only [mCells] at b3
              have g1 := hPd.f.cell hxl
              have z1 := hPd.f.frozen x
              have HPn := hide hPd.frag
              clear hPd
              go_upto_region 30 with fail
              obtain ⟨wn, hwn⟩ : ∃ wn, wn = wd.setCell ⟨FB, x, none⟩ (.int .i64 (fragVal fx)) := ⟨_, rfl⟩
              have hPn := HPn.out
              rw [HF.out, ← hwn] at hPn
              rw [← hwn]
              clear hwn HPn b3 g1 z1
              cases fx with
              | some d' =>
                as_aux_lemma =>
                rw [show fragVal (some d') = (d' : Int) from rfl]
                have hd' : d' < d := by
                  have := HF.out
                  unfold spreadOf at this
                  split at this
                  · cases this
                  · exact (fragIx_lt d this).1
                obtain ⟨va, vc, hva, _⟩ := (hPn.rt d' hd').row
                generalize (rootsTo m par d (first m d) d').length = vn at hva
                have b4 := hPn.b.cell (show 4 < 6 by omega)
                have b5 := hPn.b.cell (show 5 < 6 by omega)
                simp only [mCells] at b4 b5
                have r1 := hPn.r.cell hd'
                rw [hva] at r1
                have h1 := hPn.h.cell hxl
                have y1 := hPn.h.frozen x
                obtain ⟨l1, l2, l3⟩ := hPn.rb
                have n1 : HB ≠ w.heap.size + 1 := by omega
                have n2 : HB ≠ RB := by omega
                have di0 : (0 : Int) ≤ (d' : Int) := by omega
                have di1 : (d' : Int) < (d : Int) := by omega
                have HN := hide (hPn.held (v := RV d') (by simp only [heldList, HF.out]; exact hPn.rt d' hd') (hPn.ro d' hd'))
                rw [hva] at HN
                clear hPn hva l1 l2 l3
                go_wp2
                go_region_held3 (fun w' => w'.cell? ⟨w.heap.size + 1, 4, none⟩ = some (rowOf HB (first m d)) ∧ w'.cell? ⟨w.heap.size + 1, 5, none⟩ = some (rowOf RB d) ∧ w'.cell? ⟨RB, d', none⟩ = some (.slice va vn vc)) (go_keep) (fail)
                go_wp2
                go_roundg (first m d - (x + 1))
                case measure => rw [HK.out]; omega
                case rel => exact ⟨x + 1, _, rfl, by omega, by go_num, HN.out.kept (Below.refl _ _).drew⟩
              | none =>
                as_aux_lemma =>
                rw [show fragVal none = (-1 : Int) from rfl]
                have b0 := hPn.b.cell (show 0 < 6 by omega)
                simp only [mCells] at b0
                have HPn := hide hPn
                clear hPn
                go_wp2
                obtain ⟨g0, rfl⟩ : ∃ g0 : Nat, g0 = gk := ⟨_, rfl⟩
                go_loopg [18, 19] (first m d) (fun k v i wr => ∃ y : Nat, ∃ va vn vc, k = first m d - y ∧ y ≤ first m d ∧ i = .int .i64 y ∧ v = .slice va vn vc ∧ Owns wr wn.heap.size (.slice va vn vc) (kidsTo m par d y x) ∧ Below wn.heap.size wn wr)
                case atStart => exact ⟨0, none, 0, 0, rfl, Nat.zero_le _, rfl, rfl, ⟨World.ownsRow_nil _ _ _ _, fun _ => rfl⟩, Below.refl _ _⟩
                case round =>
                  obtain ⟨y, va, vn, vc, hk2, hy, rfl, rfl, hO, hb⟩ := hrel
                  have HK2 := hide hk2
                  clear hk2
                  have hP := HPn.out.kept hb
                  have c0 := hP.b.cell (show 0 < 6 by omega)
                  simp only [mCells] at c0
                  by_cases hyl : y < first m d
                  · as_aux_lemma =>
                    have c1 := hP.b.cell (show 1 < 6 by omega)
                    have c2 := hP.b.cell (show 2 < 6 by omega)
                    simp only [mCells] at c1 c2
                    have qoy : wr.cell? ⟨bo, oo + y, none⟩ = some (.int .i64 (own m d y : Int)) := (owners_row hP.o).cell hyl
                    have qly : wr.cell? ⟨bl, ol + y, none⟩ = some (.int .i64 (loc m d y : Int)) := (locals_row hP.l).cell hyl
                    have qlx : wr.cell? ⟨bl, ol + x, none⟩ = some (.int .i64 (loc m d x : Int)) := (locals_row hP.l).cell hxl
                    have how := own_lt d x hxl
                    obtain ⟨b2, o2, rfl, k2⟩ := H2.out.outer (own m d x) how.1
                    have q2 : wr.cell? ⟨b2, o2 + own m d x, none⟩ = some (.slice (A2 (own m d x)) (m (own m d x)) (C2 (own m d x))) := (hP.below.cell (lt_of_cell k2)).trans k2
                    have yi0 : (0 : Int) ≤ (y : Int) := by omega
                    have yi1 : (y : Int) < (first m d : Int) := by omega
                    have hll := loc_lt hyl
                    by_cases hod : own m d y = own m d x
                    · rw [hod] at qoy hll
                      obtain ⟨b3, o3, e3, k3⟩ := H2.out.inner (own m d x) how.1 (loc m d y) hll.1
                      have q3 : wr.cell? ⟨b3, o3 + loc m d y, none⟩ = some (.int .i64 (par (own m d x) (loc m d y))) := (hP.below.cell (lt_of_cell k3)).trans k3
                      rw [e3] at q2
                      have ly0 : (0 : Int) ≤ (loc m d y : Int) := by omega
                      have ly1 : (loc m d y : Int) < (m (own m d x) : Int) := by omega
                      by_cases heq : par (own m d x) (loc m d y) = (loc m d x : Int)
                      · have HR := hide (kidsTo_yes (m := m) (par := par) (n := d) (x := y) (y := x) ⟨hod, heq⟩)
                        have HO := hide hO
                        rw [heq] at q3
                        clear hP hO k2 k3 e3 hll hod heq HPn b0 how H2
                        generalize own m d x = ox at *
                        generalize loc m d x = lx at *
                        generalize loc m d y = ly at *
                        go_wp2
                        go_quiet (fail)
                        go_upto_region 37 with fail
                        obtain ⟨wd2, hwd⟩ : ∃ wd2, wd2 = wr.drewN nq := ⟨_, rfl⟩
                        have hOd : Owns wd2 wn.heap.size (.slice va vn vc) (kidsTo m par d y x) := by rw [hwd]; exact HO.out.kept (fun _ _ _ => rfl)
                        have hbd : Below wn.heap.size wn wd2 := by rw [hwd]; exact below_drewN hb _
                        rw [← hwd]
                        have HOd := hide hOd
                        have HOa := hide (hOd.below ((Below.refl _ _).alloc (Nat.le_refl _) (.cells #[.int .i64 (y : Int)] 3)))
                        have HBa : Hid ((wd2.alloc (.cells #[.int .i64 (y : Int)] 3)).cell? ⟨wd2.heap.size, 0, none⟩ = some (.int .i64 (y : Int))) := by show _ = _; simp
                        have hws := hbd.size
                        clear hwd hOd HO hb c1 c2 qoy qly qlx q2 q3
                        go_wp2_with (first
                          | (at_builtin; refine wpList_app _ rfl _ _ rfl wn.heap.size _ (kidsTo m par d y x) y rfl HOa.out wd2.heap.size rfl HBa.out (Nat.le_trans (kidsTo_length _ _ _ _ _) (by omega)) (by simp; omega) ?_; intro g cap w1 hown hgrow hat hlt; have HN := hide (app_below _ HOd.out hbd hws hown hgrow); clear hown hgrow hat hlt))
                        go_roundg (first m d - (y + 1))
                        case measure => rw [HK2.out]; omega
                        case rel => exact ⟨y + 1, _, _, _, rfl, by omega, by go_num, rfl, by rw [HR.out]; exact HN.out.1, HN.out.2⟩
                      · have HR := hide (kidsTo_no (m := m) (par := par) (n := d) (x := y) (y := x) (fun h => heq h.2))
                        have HO := hide hO
                        clear hP hO k2 k3 e3 hll hod HPn b0 how H2
                        generalize own m d x = ox at *
                        generalize loc m d x = lx at *
                        generalize loc m d y = ly at *
                        generalize par ox ly = px at *
                        go_wp2
                        go_quiet (fail)
                        go_wp2
                        go_roundg (first m d - (y + 1))
                        case measure => rw [HK2.out]; omega
                        case rel => exact ⟨y + 1, _, _, _, rfl, by omega, by go_num, rfl, by rw [HR.out]; exact HO.out.kept (fun _ _ _ => rfl), below_drewN hb _⟩
                    · have HR := hide (kidsTo_no (m := m) (par := par) (n := d) (x := y) (y := x) (fun h => hod h.1))
                      have hne : ¬ (own m d y : Int) = (own m d x : Int) := by omega
                      have HO := hide hO
                      clear hP hO k2 hll hod HPn b0 how H2
                      generalize own m d x = ox at *
                      generalize own m d y = oy at *
                      go_wp2
                      go_quiet (fail)
                      go_wp2
                      go_roundg (first m d - (y + 1))
                      case measure => rw [HK2.out]; omega
                      case rel => exact ⟨y + 1, _, _, _, rfl, by omega, by go_num, rfl, by rw [HR.out]; exact HO.out.kept (fun _ _ _ => rfl), below_drewN hb _⟩
                  · have ey : y = first m d := by omega
                    subst ey
                    have b4 := hP.b.cell (show 4 < 6 by omega)
                    simp only [mCells] at b4
                    have h1 := hP.h.cell hxl
                    have z1 := hP.h.frozen x
                    have hhl := HPn.out.h.lt
                    have hfl := HPn.out.f.lt
                    have hbl := HPn.out.b.lt
                    have HN := hide (hP.held (by simp only [heldList, HF.out]; exact hO.listAt) (fun g e => by have := (hO.off g e).1; refine ⟨?_, ?_, ?_⟩ <;> omega))
                    clear hP HPn
                    go_wp2
                    go_roundg (first m d - (x + 1))
                    case measure => rw [HK.out]; omega
                    case rel => exact ⟨x + 1, _, rfl, by omega, by go_num, HN.out⟩
            · have ex : x = first m d := by omega
              subst ex
              have b1 := hP.b.cell (show 1 < 6 by omega)
              have b2 := hP.b.cell (show 2 < 6 by omega)
              have b3 := hP.b.cell (show 3 < 6 by omega)
              have b4 := hP.b.cell (show 4 < 6 by omega)
              have b5 := hP.b.cell (show 5 < 6 by omega)
              have s0 := hP.z.cell (show 0 < 6 by omega)
              have s1 := hP.z.cell (show 1 < 6 by omega)
              have s2 := hP.z.cell (show 2 < 6 by omega)
              have s3 := hP.z.cell (show 3 < 6 by omega)
              have s4 := hP.z.cell (show 4 < 6 by omega)
              have s5 := hP.z.cell (show 5 < 6 by omega)
              simp only [mCells] at b1 b2 b3 b4 b5 s0 s1 s2 s3 s4 s5
              have f0 := hP.z.frozen 0
              have f1 := hP.z.frozen 1
              have f2 := hP.z.frozen 2
              have f3 := hP.z.frozen 3
              have f4 := hP.z.frozen 4
              have f5 := hP.z.frozen 5
              have HP := hide hP
              clear hP
              go_wp2
              obtain ⟨wz, hwz⟩ : ∃ wz, wz = (((((wr.setCell ⟨w.heap.size, 0, none⟩ (.int .i64 (first m d : Int))).setCell ⟨w.heap.size, 1, none⟩ (.slice ao (first m d) co)).setCell ⟨w.heap.size, 2, none⟩ (.slice al (first m d) cl)).setCell ⟨w.heap.size, 3, none⟩ (rowOf FB (first m d))).setCell ⟨w.heap.size, 4, none⟩ (rowOf HB (first m d))).setCell ⟨w.heap.size, 5, none⟩ (rowOf RB d) := ⟨_, rfl⟩
              rw [← hwz]
              have hfin := HP.out.ended (va := .slice ao (first m d) co) (vb := .slice al (first m d) cl) (vc := .int .i64 (first m d : Int)) (vd := rowOf FB (first m d)) (ve := rowOf HB (first m d)) (vf := rowOf RB d)
              rw [← hwz] at hfin
              obtain ⟨hz, hM, hbz⟩ := hfin
              have q0 := hz.cell (show 0 < 6 by omega)
              have q1 := hz.cell (show 1 < 6 by omega)
              have q2 := hz.cell (show 2 < 6 by omega)
              have q3 := hz.cell (show 3 < 6 by omega)
              have q4 := hz.cell (show 4 < 6 by omega)
              have q5 := hz.cell (show 5 < 6 by omega)
              simp only [mCells] at q0 q1 q2 q3 q4 q5
              refine bodyPost_ret (v := .agg #[.int .i64 (first m d : Int), .slice ao (first m d) co, .slice al (first m d) cl, rowOf FB (first m d), rowOf HB (first m d), rowOf RB d]) (by simp [results, Try.results15, go_sem, q0, q1, q2, q3, q4, q5]) rfl ?_
              exact ⟨_, _, RB, FB, HB, RV, HV, rfl, hM, hbz⟩

end Go.Proofs.Qxb6602394a.T
