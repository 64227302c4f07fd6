/-
  newSelectionTree: the whole walk.
-/
import Derived.Test.Qxb6602394aEnded
namespace Go.Proofs.Qxb6602394a.T
open Go.RowKit
set_option linter.unusedVariables false

theorem Hid.of {p : Prop} (h : p) : Hid p := h

set_option maxRecDepth 100000 in
set_option maxHeartbeats 16000000 in
theorem tree_any (A n : Nat) (D S : Nat → Nat) (fb : Nat → Bool) (nm : Nat → ByteArray) (m : Nat → Nat) (par : Nat → Nat → Int) (ky fg : Nat → Nat → ByteArray) (w : World) (hn : n ≤ 4096) (hall : first m n ≤ 4096) (hs : ∀ i, i < n → (nm i).size ≤ maxLen) (hpar : ∀ i j, i < n → j < m i → par i j < (m i : Int)) (hfs : ∀ i j, i < n → j < m i → (fg i j).size ≤ maxLen)
    (h : DefsAt w A n D S fb nm m par ky fg) :
    Calls Try.prog 33 #[.slice (some ⟨A, 0, none⟩) n n] w fun e w' => e = .returned (.pointer (some ⟨w.heap.size + 1, 0, none⟩)) ∧ TreeAt w w' A n fb nm m par ky fg := by
  have hmk1 := run_make_row' (P := Try.prog) 24 32 (.slice none 0 0) 24 Try.underlying24 info32 rfl .i64 .i64 n (by omega) (by omega)
  have hmk2 := run_make_row' (P := Try.prog) 32 3 (.int .i64 0) 8 Try.underlying32 info3 rfl .i64 .i64 (n + 1) (by omega) (by omega)
  rw [show ((n + 1 : Nat) : Int) = (n : Int) + 1 by omega] at hmk2
  obtain ⟨i0, hi0, hz0, hz1, hz2⟩ := info_parts info3
  go_enter Try.func33, Try.ntmps33
  go_wp2
  clear hmk1 hmk2
  go_loopg [5, 6, 36] n (fun k _ _ i wr => ∃ p : Nat, k = n - p ∧ p ≤ n ∧ i = .int .i64 p ∧ Base1 w wr A n (.slice none 0 0) (firstTo m p))
  case atStart => exact ⟨0, rfl, Nat.zero_le _, rfl, base1_start w A n m⟩
  case round =>
    obtain ⟨p, hk, hpn, rfl, hb1⟩ := hrel
    have HK : Hid (gk = n - p) := hk
    clear hk
    by_cases hlt : p < n
    · as_aux_lemma =>
      have hb' : ∀ {a : Addr} {v : Value}, w.cell? a = some v → wr.cell? a = some v := fun h => (hb1.below.cell (lt_of_cell h)).trans h
      have hd := h.each p hlt
      have q0 := hb' (h.ptr p hlt)
      have q1 := hb' hd.sels
      have l1 := lt_of_cell hd.sels
      have ne1 : w.heap.size + 1 + 1 ≠ D p := by have : D p < w.heap.size := l1; omega
      have f0 : wr.cell? ⟨w.heap.size + 1 + 1, p, none⟩ = some (.int .i64 (first m p)) := by
        have := hb1.f.cell (show p < n + 1 by omega)
        rw [this]; unfold firstTo; rw [if_pos (Nat.le_refl _)]
      have f1 := hb1.f.cell (show p + 1 < n + 1 by omega)
      have z1 := hb1.f.frozen (p + 1)
      have hle : first m p + m p ≤ 4096 := by
        have := first_mono (m := m) (show p + 1 ≤ n by omega)
        rw [first_succ] at this; omega
      have H1 : Hid (Base1 w wr A n (.slice none 0 0) (firstTo m p)) := hb1
      have i0 : (0 : Int) ≤ (p : Int) := by omega
      have i1 : (p : Int) < (n : Int) + 1 := by omega
      have i2 : (p : Int) + 1 < (n : Int) + 1 := by omega
      have i3 : (0 : Int) ≤ (p : Int) + 1 := by omega
      have i4 : ((p : Int) + 1).toNat = p + 1 := by omega
      have kp : ∀ v, (wr.setCell ⟨w.heap.size + 1 + 1, p + 1, none⟩ v).cell? ⟨w.heap.size + 1 + 1, p, none⟩ = some (.int .i64 (first m p)) := fun v => (World.cell?_setCell_other _ _ _ _ (by simp)).trans f0
      have wr1 : IntKind.i64.wrap ((p : Int) + 1) = (p : Int) + 1 := by rw [IntKind.wrap_i64]; omega
      have wr2 : IntKind.i64.wrap ((first m p : Int) + (m p : Int)) = (first m p : Int) + (m p : Int) := by rw [IntKind.wrap_i64]; omega
      clear hb' hb1 hd l1 h hs
      go_wp2
      go_region_held3 (fun w' => w'.cell? ⟨w.heap.size + 1 + 1, p, none⟩ = some (.int .i64 (first m p)) ∧ w'.cell? ⟨D p, 10, none⟩ = some (.slice (some ⟨S p, 0, none⟩) (m p) (m p)))
        (go_keep) (fail)
      go_wp2
      go_roundg (n - (p + 1))
      case measure => rw [HK.out]; omega
      case rel => exact ⟨p + 1, rfl, by omega, by go_num, H1.out.step _ (by omega)⟩
    · have e : p = n := by omega
      subst e
      have t6 := hb1.t.cell (show 6 < 7 by omega)
      have zt6 := hb1.t.frozen 6
      have f0 : wr.cell? ⟨w.heap.size + 1 + 1, p, none⟩ = some (.int .i64 (first m p)) := by
        have := hb1.f.cell (show p < p + 1 by omega)
        rw [this]; unfold firstTo; rw [if_pos (Nat.le_refl _)]
      have H1 : Hid (Base1 w wr A p (.slice none 0 0) (firstTo m p)) := hb1
      have hsz := hb1.size
      clear hb1
      have hmk3 := run_make_row' (P := Try.prog) 23 9 (.string ByteArray.empty) 16 Try.underlying23 info9 rfl .i64 .i64 (first m p) (by omega) (by omega)
      have hmk4 := run_make_row' (P := Try.prog) 22 4 (.bool false) 1 Try.underlying22 info4 rfl .i64 .i64 (first m p) (by omega) (by omega)
      have hmk5 := run_make_row' (P := Try.prog) 24 32 (.slice none 0 0) 24 Try.underlying24 info32 rfl .i64 .i64 (first m p) (by omega) (by omega)
      go_wp2
      obtain ⟨wz, hwz⟩ : ∃ wz, wz = wr.setCell ⟨w.heap.size + 1, 6, none⟩ (.slice (some ⟨w.heap.size + 1 + 1, 0, none⟩) (p + 1) (p + 1)) := ⟨_, rfl⟩
      rw [← hwz]
      have HZ : Hid (Base1 w wz A p (.slice (some ⟨w.heap.size + 1 + 1, 0, none⟩) (p + 1) (p + 1)) (firstTo m p)) := by rw [hwz]; exact H1.out.store6 _
      have hzs : wz.heap.size = w.heap.size + 1 + 1 + 1 := HZ.out.size
      have y1 := HZ.out.t.cell (show 1 < 7 by omega)
      have y2 := HZ.out.t.cell (show 2 < 7 by omega)
      have y4 := HZ.out.t.cell (show 4 < 7 by omega)
      have x1 := HZ.out.t.frozen 1
      have x2 := HZ.out.t.frozen 2
      have x4 := HZ.out.t.frozen 4
      simp only [tCells] at y1 y2 y4
      clear hwz t6 zt6 f0
      go_cut [7] (fun x wc => x = .int .i64 (first m p) ∧ ∃ K Sp H, Mid0 w wc A p (first m p) K Sp H m)
      case first =>
        as_aux_lemma =>
        go_region
        all_goals
          go_wp2_with fail
          go_meet
          case rel =>
            refine ⟨rfl, mid0_gen HZ.out ?_ ?_ ?_ ?_⟩
            · first | (refine ⟨0, ?_, ?_⟩; (· omega); (· rfl)) | (refine ⟨1, ?_, ?_⟩; (· omega); (· rfl)) | (refine ⟨2, ?_, ?_⟩; (· omega); (· rfl))
            · first | (refine ⟨0, ?_, ?_⟩; (· omega); (· rfl)) | (refine ⟨1, ?_, ?_⟩; (· omega); (· rfl)) | (refine ⟨2, ?_, ?_⟩; (· omega); (· rfl))
            · first | (refine ⟨0, ?_, ?_⟩; (· omega); (· rfl)) | (refine ⟨1, ?_, ?_⟩; (· omega); (· rfl)) | (refine ⟨2, ?_, ?_⟩; (· omega); (· rfl))
            · omega
      case rest =>
        as_aux_lemma =>
        obtain ⟨rfl, K, Sp, H, hm0⟩ := hcut
        have hM := Mid.start hm0 par (fun x => ky (own m p x) (loc m p x)) (fun x => !(fg (own m p x) (loc m p x)).toList.isEmpty)
        obtain ⟨base, hbase⟩ : ∃ b, b = wc.heap.size := ⟨_, rfl⟩
        rw [← hbase] at hM
        have HB : Hid (base = wc.heap.size) := hbase
        clear hbase hm0 H1 hsz HK hmk3 hmk4 hmk5 HZ hzs y1 y2 y4 x1 x2 x4 wz
        go_wp2
        go_loopg [82] p (fun k i wr => ∃ q : Nat, ∃ V : Nat → Value, k = p - q ∧ q ≤ p ∧ i = .int .i64 q ∧ Mid w wr A p (first m p) K Sp H base m par (fun x => ky (own m p x) (loc m p x)) (fun x => !(fg (own m p x) (loc m p x)).toList.isEmpty) (first m q) (first m q) V)
        case atStart => exact ⟨0, _, rfl, Nat.zero_le _, rfl, hM⟩
        case round =>
          clear hM
          obtain ⟨q, V, hk, hqp, rfl, hM⟩ := hrel
          have HK : Hid (gk = p - q) := hk
          clear hk
          by_cases hq : q < p
          · as_aux_lemma =>
            have hb' : ∀ {a : Addr} {v : Value}, w.cell? a = some v → wr.cell? a = some v := fun h => (hM.below.cell (lt_of_cell h)).trans h
            have hd := h.each q hq
            have c0 := hb' (h.ptr q hq)
            have c1 := hb' hd.sels
            have HM : Hid (Mid w wr A p (first m p) K Sp H base m par (fun x => ky (own m p x) (loc m p x)) (fun x => !(fg (own m p x) (loc m p x)).toList.isEmpty) (first m q) (first m q) V) := hM
            have hmq : m q ≤ first m p := by
              have := first_mono (m := m) (show q + 1 ≤ p by omega)
              rw [first_succ] at this; omega
            clear hM hb'
            go_wp2
            obtain ⟨wo, rfl⟩ : ∃ wo : World, wo = wr := ⟨_, rfl⟩
            obtain ⟨g0, rfl⟩ : ∃ g0 : Nat, g0 = gk := ⟨_, rfl⟩
            go_loopg [92] (m q) (fun k i wr => ∃ j : Nat, ∃ V : Nat → Value, k = m q - j ∧ j ≤ m q ∧ i = .int .i64 j ∧ Mid w wr A p (first m p) K Sp H base m par (fun x => ky (own m p x) (loc m p x)) (fun x => !(fg (own m p x) (loc m p x)).toList.isEmpty) (first m q + j) (first m q + j) V)
            case atStart => exact ⟨0, V, rfl, Nat.zero_le _, rfl, HM.out⟩
            case round =>
              clear HM V
              obtain ⟨j, V, hk2, hjm, rfl, hM⟩ := hrel
              have HK2 : Hid (gk = m q - j) := hk2
              clear hk2
              by_cases hj : j < m q
              · as_aux_lemma =>
                have hb' : ∀ {a : Addr} {v : Value}, w.cell? a = some v → wr.cell? a = some v := fun h => (hM.below.cell (lt_of_cell h)).trans h
                have s0 : wr.cell? ⟨S q, j * 6, none⟩ = some (.int .i64 (par q j)) := hb' (hd.sel j 0 hj (by omega))
                have s1 : wr.cell? ⟨S q, j * 6 + 1, none⟩ = some (.string (ky q j)) := hb' (hd.sel j 1 hj (by omega))
                have s2 : wr.cell? ⟨S q, j * 6 + 2, none⟩ = some (.string (fg q j)) := hb' (hd.sel j 2 hj (by omega))
                have s3 : wr.cell? ⟨S q, j * 6 + 3, none⟩ = some (.string ByteArray.empty) := hb' (hd.sel j 3 hj (by omega))
                have s4 : wr.cell? ⟨S q, j * 6 + 4, none⟩ = some (.int .i64 0) := hb' (hd.sel j 4 hj (by omega))
                have s5 : wr.cell? ⟨S q, j * 6 + 5, none⟩ = some (.int .i64 0) := hb' (hd.sel j 5 hj (by omega))
                have f0 : wr.cell? ⟨w.heap.size + 1 + 1, q, none⟩ = some (.int .i64 (first m q)) := by
                  have := hM.f.cell (show q < p + 1 by omega)
                  rw [this]; unfold firstTo; rw [if_pos hqp]
                have hle := place_lt (m := m) hq hj
                have HM : Hid (Mid w wr A p (first m p) K Sp H base m par (fun x => ky (own m p x) (loc m p x)) (fun x => !(fg (own m p x) (loc m p x)).toList.isEmpty) (first m q + j) (first m q + j) V) := hM
                have f0' : ∀ o, (wr.alloc o).cell? ⟨w.heap.size + 1 + 1, q, none⟩ = some (.int .i64 (first m q)) := fun o => (World.cell?_of_block (w := wr) (Below.heap_alloc _ _ _ (lt_of_cell f0))).trans f0
                clear hb' hM c0 c1 f0
                go_wp2
                obtain ⟨ws, hws⟩ : ∃ ws, ws = wr.alloc (.cells #[.int .i64 (par q j), .string (ky q j), .string (fg q j), .string ByteArray.empty, .int .i64 0, .int .i64 0] 95) := ⟨_, rfl⟩
                rw [← hws]
                have hMs : Mid w ws A p (first m p) K Sp H base m par (fun x => ky (own m p x) (loc m p x)) (fun x => !(fg (own m p x) (loc m p x)).toList.isEmpty) (first m q + j) (first m q + j) V := by rw [hws]; exact HM.out.alloc _
                obtain ⟨tb, htb⟩ : ∃ tb, tb = wr.heap.size := ⟨_, rfl⟩
                rw [← htb]
                have e0 : ws.cell? ⟨tb, 0, none⟩ = some (.int .i64 (par q j)) := by rw [hws, htb]; simp
                have e1 : ws.cell? ⟨tb, 1, none⟩ = some (.string (ky q j)) := by rw [hws, htb]; simp
                have e2 : ws.cell? ⟨tb, 2, none⟩ = some (.string (fg q j)) := by rw [hws, htb]; simp
                have htl : base ≤ tb := by rw [htb]; exact HM.out.size
                have hnt : Hid (∀ k, k < p + first m p → (V k).ownBlock ≠ some tb) := fun k hk e => by
                  have := ((HM.out.lists.owns k hk).1.lt tb e).2
                  omega
                clear htb hws HM s0 s1 s2 s3 s4 s5 f0'
                obtain ⟨c, hc⟩ : ∃ c, c = first m q + j := ⟨_, rfl⟩
                rw [← hc] at hMs hle
                rw [show ((first m q : Int) + (j : Int)) = (c : Int) by omega]
                have HC : Hid (c = first m q + j) := hc
                have hkx : Hid (ky (own m p c) (loc m p c) = ky q j) := by show _ = _; rw [hc, own_eq p q j hq hj, loc_eq hq hj]
                have hsx : Hid ((!(fg (own m p c) (loc m p c)).toList.isEmpty) = !(fg q j).toList.isEmpty) := by show _ = _; rw [hc, own_eq p q j hq hj, loc_eq hq hj]
                clear hc
                obtain ⟨l1, l2, l3, l4, l5, l6, l7, l8, l9⟩ := hMs.lk
                have t1 := hMs.t.cell (show 1 < 7 by omega)
                have t2 := hMs.t.cell (show 2 < 7 by omega)
                simp only [tCells] at t1 t2
                have k1 := hMs.k.cell hle
                have k2 := hMs.s.cell hle
                have z1 := hMs.k.frozen c
                have z2 := hMs.s.frozen c
                have n1 : K ≠ w.heap.size + 1 := by omega
                have n2 : Sp ≠ w.heap.size + 1 := by omega
                have n3 : K ≠ tb := by omega
                have n4 : Sp ≠ tb := by omega
                have n5 : Sp ≠ K := fun e => l4 e.symm
                have HM : Hid (Mid w ws A p (first m p) K Sp H base m par (fun x => ky (own m p x) (loc m p x)) (fun x => !(fg (own m p x) (loc m p x)).toList.isEmpty) c c V) := hMs
                have ci0 : (0 : Int) ≤ (c : Int) := by omega
                have ci1 : (c : Int) < (first m p : Int) := by omega
                clear hMs l1 l2 l3 l5 l6 l7 l8 l9
                go_region_held3 (fun w' => w'.cell? ⟨w.heap.size + 1, 1, none⟩ = some (.slice (some ⟨K, 0, none⟩) (first m p) (first m p)) ∧ w'.cell? ⟨w.heap.size + 1, 2, none⟩ = some (.slice (some ⟨Sp, 0, none⟩) (first m p) (first m p)) ∧ w'.cell? ⟨tb, 0, none⟩ = some (.int .i64 (par q j)) ∧ w'.cell? ⟨tb, 1, none⟩ = some (.string (ky q j)) ∧ w'.cell? ⟨tb, 2, none⟩ = some (.string (fg q j))) (go_keep) (fail)
                obtain ⟨wk, hwk⟩ : ∃ wk, wk = ((ws.setCell ⟨K, c, none⟩ (.string (ky q j))).setCell ⟨Sp, c, none⟩ (.bool (!(fg q j).toList.isEmpty))).drew := ⟨_, rfl⟩
                rw [← hwk]
                have hMk : Mid w wk A p (first m p) K Sp H base m par (fun x => ky (own m p x) (loc m p x)) (fun x => !(fg (own m p x) (loc m p x)).toList.isEmpty) (c + 1) c V := by rw [hwk]; exact (HM.out.keys hkx.out hsx.out).drew
                have e0' : wk.cell? ⟨tb, 0, none⟩ = some (.int .i64 (par q j)) := by
                  rw [hwk]
                  show ((ws.setCell ⟨K, c, none⟩ (.string (ky q j))).setCell ⟨Sp, c, none⟩ (.bool (!(fg q j).toList.isEmpty))).cell? ⟨tb, 0, none⟩ = _
                  rw [World.cell?_setCell_other _ _ _ _ (by intro e; cases e; exact n4 rfl), World.cell?_setCell_other _ _ _ _ (by intro e; cases e; exact n3 rfl)]
                  exact e0
                clear hwk HM hkx hsx t1 t2 k1 k2 z1 z2 n1 n2 n3 n4 n5 l4 e0 e1 e2
                by_cases hneg : par q j < 0
                · as_aux_lemma =>
                  go_wp2
                  have t5 := hMk.t.cell (show 5 < 7 by omega)
                  simp only [tCells] at t5
                  have r0 := hMk.r.cell hq
                  have i2 : (0 : Int) ≤ (q : Int) := by omega
                  have i3 : (q : Int) < (p : Int) := by omega
                  refine wp_region_last (S := fun w' => w'.cell? ⟨w.heap.size + 1, 5, none⟩ = some (.slice (some ⟨w.heap.size, 0, none⟩) p p) ∧ w'.cell? ⟨w.heap.size, q, none⟩ = some (V q)) (fuel := 16) (by kernel_rfl) 16 _ rfl (by kernel_rfl) rfl ⟨t5, r0⟩ (fun hHeld => ?_)
                  refine take_at (i := 0) (d := 123) (v := ?va0) rfl rfl rfl (by kernel_rfl) (by kernel_rfl) (by kernel_rfl) (fun _ _ _ h => h) hHeld ?ya0 ?ra0
                  case ya0 =>
                    intro w' hSw
                    try dsimp only at hSw
                    go_simp
                    all_goals with_reducible rfl
                  simp only [List.setIfInBounds_toArray, List.set_cons_zero, List.set_cons_succ]
                  refine take_at (i := 1) (d := 124) (v := ?va1) rfl rfl rfl (by kernel_rfl) (by kernel_rfl) (by kernel_rfl) (fun _ _ _ h => h) hHeld ?ya1 ?ra1
                  case ya1 =>
                    intro w' hSw
                    try dsimp only at hSw
                    go_simp
                    all_goals with_reducible rfl
                  simp only [List.setIfInBounds_toArray, List.set_cons_zero, List.set_cons_succ]
                  refine take_at (i := 2) (d := 125) (v := ?va2) rfl rfl rfl (by kernel_rfl) (by kernel_rfl) (by kernel_rfl) (fun _ _ _ h => h) hHeld ?ya2 ?ra2
                  case ya2 =>
                    intro w' hSw
                    try dsimp only at hSw
                    go_simp
                    all_goals with_reducible rfl
                  simp only [List.setIfInBounds_toArray, List.set_cons_zero, List.set_cons_succ]
                  refine take_at (i := 3) (d := 126) (v := ?va3) rfl rfl rfl (by kernel_rfl) (by kernel_rfl) (by kernel_rfl) (fun _ _ _ h => h) hHeld ?ya3 ?ra3
                  case ya3 =>
                    intro w' hSw
                    try dsimp only at hSw
                    go_simp
                    all_goals with_reducible rfl
                  simp only [List.setIfInBounds_toArray, List.set_cons_zero, List.set_cons_succ]
                  refine take_at (i := 4) (d := 127) (v := ?va4) rfl rfl rfl (by kernel_rfl) (by kernel_rfl) (by kernel_rfl) (fun _ _ _ h => h) hHeld ?ya4 ?ra4
                  case ya4 =>
                    intro w' hSw
                    try dsimp only at hSw
                    go_simp
                    all_goals with_reducible rfl
                  simp only [List.setIfInBounds_toArray, List.set_cons_zero, List.set_cons_succ]
                  refine take_at (i := 5) (d := 128) (v := ?va5) rfl rfl rfl (by kernel_rfl) (by kernel_rfl) (by kernel_rfl) (fun _ _ _ h => h) hHeld ?ya5 ?ra5
                  case ya5 =>
                    intro w' hSw
                    try dsimp only at hSw
                    go_simp
                    all_goals with_reducible rfl
                  simp only [List.setIfInBounds_toArray, List.set_cons_zero, List.set_cons_succ]
                  refine take_at (i := 6) (d := 129) (v := ?va6) rfl rfl rfl (by kernel_rfl) (by kernel_rfl) (by kernel_rfl) (fun _ _ _ h => h) hHeld ?ya6 ?ra6
                  case ya6 =>
                    intro w' hSw
                    try dsimp only at hSw
                    go_simp
                    all_goals with_reducible rfl
                  simp only [List.setIfInBounds_toArray, List.set_cons_zero, List.set_cons_succ]
                  refine take_at (i := 7) (d := 130) (v := ?va7) rfl rfl rfl (by kernel_rfl) (by kernel_rfl) (by kernel_rfl) (fun _ _ _ h => h) hHeld ?ya7 ?ra7
                  case ya7 =>
                    intro w' hSw
                    try dsimp only at hSw
                    go_simp
                    all_goals with_reducible rfl
                  simp only [List.setIfInBounds_toArray, List.set_cons_zero, List.set_cons_succ]
                  refine take_at (i := 8) (d := 131) (v := ?va8) rfl rfl rfl (by kernel_rfl) (by kernel_rfl) (by kernel_rfl) (fun _ _ _ h => h) hHeld ?ya8 ?ra8
                  case ya8 =>
                    intro w' hSw
                    try dsimp only at hSw
                    go_simp
                    all_goals with_reducible rfl
                  simp only [List.setIfInBounds_toArray, List.set_cons_zero, List.set_cons_succ]
                  refine take_at (i := 9) (d := 132) (v := ?va9) rfl rfl rfl (by kernel_rfl) (by kernel_rfl) (by kernel_rfl) (fun _ _ _ h => h) hHeld ?ya9 ?ra9
                  case ya9 =>
                    intro w' hSw
                    try dsimp only at hSw
                    go_simp
                    all_goals with_reducible rfl
                  simp only [List.setIfInBounds_toArray, List.set_cons_zero, List.set_cons_succ]
                  refine take_at (i := 10) (d := 133) (v := ?va10) rfl rfl rfl (by kernel_rfl) (by kernel_rfl) (by kernel_rfl) (fun _ _ _ h => h) hHeld ?ya10 ?ra10
                  case ya10 =>
                    intro w' hSw
                    try dsimp only at hSw
                    go_simp
                    all_goals with_reducible rfl
                  simp only [List.setIfInBounds_toArray, List.set_cons_zero, List.set_cons_succ]
                  refine take_at (i := 11) (d := 134) (v := ?va11) rfl rfl rfl (by kernel_rfl) (by kernel_rfl) (by kernel_rfl) (fun _ _ _ h => h) hHeld ?ya11 ?ra11
                  case ya11 =>
                    intro w' hSw
                    try dsimp only at hSw
                    go_simp
                    all_goals with_reducible rfl
                  simp only [List.setIfInBounds_toArray, List.set_cons_zero, List.set_cons_succ]
                  refine take_at (i := 12) (d := 135) (v := ?va12) rfl rfl rfl (by kernel_rfl) (by kernel_rfl) (by kernel_rfl) (fun _ _ _ h => h) hHeld ?ya12 ?ra12
                  case ya12 =>
                    intro w' hSw
                    try dsimp only at hSw
                    go_simp
                    all_goals with_reducible rfl
                  simp only [List.setIfInBounds_toArray, List.set_cons_zero, List.set_cons_succ]
                  have hO := (hMk.lists.owns q (by omega)).1
                  have hLl := listsTo_length m par p c q
                  have hsz := hMk.size
                  refine run_at (i := 13) (d := 136) (v := .slice (some ⟨wk.heap.size, 0, none⟩) 1 1) (w' := (wk.alloc (.cells #[.int .i64 (c : Int)] 3)).drew) rfl rfl rfl (by kernel_rfl) ?yba ?sba (fun hHeld => ?_)
                  case yba => go_simp
                  case sba => exact ⟨(World.cell?_of_block (w := wk) (Below.heap_alloc _ _ _ (lt_of_cell t5))).trans t5, (World.cell?_of_block (w := wk) (Below.heap_alloc _ _ _ (lt_of_cell r0))).trans r0⟩
                  simp only [List.setIfInBounds_toArray, List.set_cons_zero, List.set_cons_succ]
                  refine append_at (i := 14) (d := 137) (wk.alloc (.cells #[.int .i64 (c : Int)] 3)).drew rfl rfl rfl (by kernel_rfl) (.tmp 134) (.tmp 136) 32 rfl base 3 i0 (.int .i64 0) 1 8 Try.underlying32 hi0 hz0 hz1 hz2 rfl (by decide) (V q) (listsTo m par p c q).length (numCells (listsTo m par p c q)) rfl (hO.alloc _).drew ⟨wk.heap.size, 0, none⟩ 1 1 [.int .i64 (c : Int)] rfl rfl ?nwa ?oca (by decide) ?b1a ?b2a ?b3a (fun g cap w1 a1 a2 a3 a4 => ⟨?saa, fun hHeld => ?_⟩)
                  case nwa => exact World.news_of_block (cs := #[.int .i64 (c : Int)]) (t := 3) (fr := (0, 0)) (heap_alloc_new wk _)
                  case oca => intro u hu; simp at hu; subst hu; rfl
                  case b1a => unfold maxLen; omega
                  case b2a => omega
                  case b3a => simp; omega
                  case saa =>
                    obtain ⟨hrows, _⟩ := (hMk.alloc (.cells #[.int .i64 (c : Int)] 3)).drew.grown (k0 := q) (by omega) a2
                    have lk := hMk.lk
                    exact ⟨(World.cell?_of_block (hrows (w.heap.size + 1) (by omega))).trans hHeld.1, (World.cell?_of_block (hrows w.heap.size (by omega))).trans hHeld.2⟩
                  simp only [List.setIfInBounds_toArray, List.set_cons_zero, List.set_cons_succ]
                  refine take_at (i := 15) (d := 138) (v := ?va15) rfl rfl rfl (by kernel_rfl) (by kernel_rfl) (by kernel_rfl) (fun _ _ _ h => h) hHeld ?ya15 ?ra15
                  case ya15 =>
                    intro w' hSw
                    try dsimp only at hSw
                    go_simp
                    all_goals with_reducible rfl
                  simp only [List.setIfInBounds_toArray, List.set_cons_zero, List.set_cons_succ]
                  refine wpAnyH_done (by kernel_rfl) ?_ _
                  have hrw : w1.rowIs w.heap.size 32 p V := by
                    obtain ⟨hrows, _⟩ := (hMk.alloc (.cells #[.int .i64 (c : Int)] 3)).drew.grown (k0 := q) (by omega) a2
                    have lk := hMk.lk
                    exact World.rowIs.of_block (hMk.r.alloc (.cells #[.int .i64 (c : Int)] 3)).drew (hrows w.heap.size (by omega))
                  have rc := hrw.cell hq
                  have rz := hrw.frozen q
                  have HN : Hid _ := (hMk.alloc (.cells #[.int .i64 (c : Int)] 3)).drew.root (i := q) (j := j) hq hj hneg rfl HC.out a1 a2 a3
                  clear hrw
                  unfold behind
                  simp only [Exit.then, List.getElem_toArray, List.getElem_cons_succ, List.getElem_cons_zero]
                  go_wp2
                  go_roundg (m q - (j + 1))
                  case measure => rw [HK2.out]; omega
                  case rel =>
                    have hfin := HN.out
                    rw [show c + 1 = first m q + (j + 1) by rw [HC.out]; omega] at hfin
                    exact ⟨j + 1, _, rfl, by omega, by go_num, hfin⟩
                · obtain ⟨pr, hpr⟩ : ∃ pr : Nat, par q j = (pr : Int) := ⟨(par q j).toNat, by omega⟩
                  have hpm : pr < m q := by have := hpar q j hq hj; omega
                  have hyl := place_lt (m := m) hq hpm
                  rw [hpr] at e0'
                  have hneg' : ¬ ((pr : Int) < 0) := by omega
                  have HPR : Hid (par q j = (pr : Int)) := hpr
                  clear hneg hpr
                  go_wp2
                  have t4 := hMk.t.cell (show 4 < 7 by omega)
                  simp only [tCells] at t4
                  have f0 : wk.cell? ⟨w.heap.size + 1 + 1, q, none⟩ = some (.int .i64 (first m q)) := by
                    have := hMk.f.cell (show q < p + 1 by omega)
                    rw [this]; unfold firstTo; rw [if_pos hqp]
                  have r0 : wk.cell? ⟨H, first m q + pr, none⟩ = some (V (p + (first m q + pr))) := hMk.h.cell hyl
                  have i2 : (0 : Int) ≤ (q : Int) := by omega
                  have i3 : (q : Int) < (p : Int) + 1 := by omega
                  have i4 : IntKind.i64.wrap ((first m q : Int) + (pr : Int)) = (first m q : Int) + (pr : Int) := by rw [IntKind.wrap_i64]; omega
                  have i5 : (0 : Int) ≤ (first m q : Int) + (pr : Int) := by omega
                  have i6 : (first m q : Int) + (pr : Int) < (first m p : Int) := by omega
                  have i7 : ((first m q : Int) + (pr : Int)).toNat = first m q + pr := by omega
                  refine wp_region_last (S := fun w' => w'.cell? ⟨w.heap.size + 1, 4, none⟩ = some (.slice (some ⟨H, 0, none⟩) (first m p) (first m p)) ∧ w'.cell? ⟨w.heap.size + 1 + 1, q, none⟩ = some (.int .i64 (first m q)) ∧ w'.cell? ⟨tb, 0, none⟩ = some (.int .i64 (pr : Int)) ∧ w'.cell? ⟨H, first m q + pr, none⟩ = some (V (p + (first m q + pr)))) (fuel := 28) (by kernel_rfl) 28 _ rfl (by kernel_rfl) rfl ⟨t4, f0, e0', r0⟩ (fun hHeld => ?_)
                  refine take_at (i := 0) (d := 139) (v := ?vb0) rfl rfl rfl (by kernel_rfl) (by kernel_rfl) (by kernel_rfl) (fun _ _ _ h => h) hHeld ?ybb0 ?rb0
                  case ybb0 =>
                    intro w' hSw
                    try dsimp only at hSw
                    go_simp
                    all_goals with_reducible rfl
                  simp only [List.setIfInBounds_toArray, List.set_cons_zero, List.set_cons_succ]
                  refine take_at (i := 1) (d := 140) (v := ?vb1) rfl rfl rfl (by kernel_rfl) (by kernel_rfl) (by kernel_rfl) (fun _ _ _ h => h) hHeld ?ybb1 ?rb1
                  case ybb1 =>
                    intro w' hSw
                    try dsimp only at hSw
                    go_simp
                    all_goals with_reducible rfl
                  simp only [List.setIfInBounds_toArray, List.set_cons_zero, List.set_cons_succ]
                  refine take_at (i := 2) (d := 141) (v := ?vb2) rfl rfl rfl (by kernel_rfl) (by kernel_rfl) (by kernel_rfl) (fun _ _ _ h => h) hHeld ?ybb2 ?rb2
                  case ybb2 =>
                    intro w' hSw
                    try dsimp only at hSw
                    go_simp
                    all_goals with_reducible rfl
                  simp only [List.setIfInBounds_toArray, List.set_cons_zero, List.set_cons_succ]
                  refine take_at (i := 3) (d := 142) (v := ?vb3) rfl rfl rfl (by kernel_rfl) (by kernel_rfl) (by kernel_rfl) (fun _ _ _ h => h) hHeld ?ybb3 ?rb3
                  case ybb3 =>
                    intro w' hSw
                    try dsimp only at hSw
                    go_simp
                    all_goals with_reducible rfl
                  simp only [List.setIfInBounds_toArray, List.set_cons_zero, List.set_cons_succ]
                  refine take_at (i := 4) (d := 143) (v := ?vb4) rfl rfl rfl (by kernel_rfl) (by kernel_rfl) (by kernel_rfl) (fun _ _ _ h => h) hHeld ?ybb4 ?rb4
                  case ybb4 =>
                    intro w' hSw
                    try dsimp only at hSw
                    go_simp
                    all_goals with_reducible rfl
                  simp only [List.setIfInBounds_toArray, List.set_cons_zero, List.set_cons_succ]
                  refine take_at (i := 5) (d := 144) (v := ?vb5) rfl rfl rfl (by kernel_rfl) (by kernel_rfl) (by kernel_rfl) (fun _ _ _ h => h) hHeld ?ybb5 ?rb5
                  case ybb5 =>
                    intro w' hSw
                    try dsimp only at hSw
                    go_simp
                    all_goals with_reducible rfl
                  simp only [List.setIfInBounds_toArray, List.set_cons_zero, List.set_cons_succ]
                  refine take_at (i := 6) (d := 145) (v := ?vb6) rfl rfl rfl (by kernel_rfl) (by kernel_rfl) (by kernel_rfl) (fun _ _ _ h => h) hHeld ?ybb6 ?rb6
                  case ybb6 =>
                    intro w' hSw
                    try dsimp only at hSw
                    go_simp
                    all_goals with_reducible rfl
                  simp only [List.setIfInBounds_toArray, List.set_cons_zero, List.set_cons_succ]
                  refine take_at (i := 7) (d := 146) (v := ?vb7) rfl rfl rfl (by kernel_rfl) (by kernel_rfl) (by kernel_rfl) (fun _ _ _ h => h) hHeld ?ybb7 ?rb7
                  case ybb7 =>
                    intro w' hSw
                    try dsimp only at hSw
                    go_simp
                    all_goals with_reducible rfl
                  simp only [List.setIfInBounds_toArray, List.set_cons_zero, List.set_cons_succ]
                  refine take_at (i := 8) (d := 147) (v := ?vb8) rfl rfl rfl (by kernel_rfl) (by kernel_rfl) (by kernel_rfl) (fun _ _ _ h => h) hHeld ?ybb8 ?rb8
                  case ybb8 =>
                    intro w' hSw
                    try dsimp only at hSw
                    go_simp
                    all_goals with_reducible rfl
                  simp only [List.setIfInBounds_toArray, List.set_cons_zero, List.set_cons_succ]
                  refine take_at (i := 9) (d := 148) (v := ?vb9) rfl rfl rfl (by kernel_rfl) (by kernel_rfl) (by kernel_rfl) (fun _ _ _ h => h) hHeld ?ybb9 ?rb9
                  case ybb9 =>
                    intro w' hSw
                    try dsimp only at hSw
                    go_simp
                    all_goals with_reducible rfl
                  simp only [List.setIfInBounds_toArray, List.set_cons_zero, List.set_cons_succ]
                  refine take_at (i := 10) (d := 149) (v := ?vb10) rfl rfl rfl (by kernel_rfl) (by kernel_rfl) (by kernel_rfl) (fun _ _ _ h => h) hHeld ?ybb10 ?rb10
                  case ybb10 =>
                    intro w' hSw
                    try dsimp only at hSw
                    go_simp
                    all_goals with_reducible rfl
                  simp only [List.setIfInBounds_toArray, List.set_cons_zero, List.set_cons_succ]
                  refine take_at (i := 11) (d := 150) (v := ?vb11) rfl rfl rfl (by kernel_rfl) (by kernel_rfl) (by kernel_rfl) (fun _ _ _ h => h) hHeld ?ybb11 ?rb11
                  case ybb11 =>
                    intro w' hSw
                    try dsimp only at hSw
                    go_simp
                    all_goals with_reducible rfl
                  simp only [List.setIfInBounds_toArray, List.set_cons_zero, List.set_cons_succ]
                  refine take_at (i := 12) (d := 151) (v := ?vb12) rfl rfl rfl (by kernel_rfl) (by kernel_rfl) (by kernel_rfl) (fun _ _ _ h => h) hHeld ?ybb12 ?rb12
                  case ybb12 =>
                    intro w' hSw
                    try dsimp only at hSw
                    go_simp
                    all_goals with_reducible rfl
                  simp only [List.setIfInBounds_toArray, List.set_cons_zero, List.set_cons_succ]
                  refine take_at (i := 13) (d := 152) (v := ?vb13) rfl rfl rfl (by kernel_rfl) (by kernel_rfl) (by kernel_rfl) (fun _ _ _ h => h) hHeld ?ybb13 ?rb13
                  case ybb13 =>
                    intro w' hSw
                    try dsimp only at hSw
                    go_simp
                    all_goals with_reducible rfl
                  simp only [List.setIfInBounds_toArray, List.set_cons_zero, List.set_cons_succ]
                  refine take_at (i := 14) (d := 153) (v := ?vb14) rfl rfl rfl (by kernel_rfl) (by kernel_rfl) (by kernel_rfl) (fun _ _ _ h => h) hHeld ?ybb14 ?rb14
                  case ybb14 =>
                    intro w' hSw
                    try dsimp only at hSw
                    go_simp
                    all_goals with_reducible rfl
                  simp only [List.setIfInBounds_toArray, List.set_cons_zero, List.set_cons_succ]
                  refine take_at (i := 15) (d := 154) (v := ?vb15) rfl rfl rfl (by kernel_rfl) (by kernel_rfl) (by kernel_rfl) (fun _ _ _ h => h) hHeld ?ybb15 ?rb15
                  case ybb15 =>
                    intro w' hSw
                    try dsimp only at hSw
                    go_simp
                    all_goals with_reducible rfl
                  simp only [List.setIfInBounds_toArray, List.set_cons_zero, List.set_cons_succ]
                  refine take_at (i := 16) (d := 155) (v := ?vb16) rfl rfl rfl (by kernel_rfl) (by kernel_rfl) (by kernel_rfl) (fun _ _ _ h => h) hHeld ?ybb16 ?rb16
                  case ybb16 =>
                    intro w' hSw
                    try dsimp only at hSw
                    go_simp
                    all_goals with_reducible rfl
                  simp only [List.setIfInBounds_toArray, List.set_cons_zero, List.set_cons_succ]
                  refine take_at (i := 17) (d := 156) (v := ?vb17) rfl rfl rfl (by kernel_rfl) (by kernel_rfl) (by kernel_rfl) (fun _ _ _ h => h) hHeld ?ybb17 ?rb17
                  case ybb17 =>
                    intro w' hSw
                    try dsimp only at hSw
                    go_simp
                    all_goals with_reducible rfl
                  simp only [List.setIfInBounds_toArray, List.set_cons_zero, List.set_cons_succ]
                  refine take_at (i := 18) (d := 157) (v := ?vb18) rfl rfl rfl (by kernel_rfl) (by kernel_rfl) (by kernel_rfl) (fun _ _ _ h => h) hHeld ?ybb18 ?rb18
                  case ybb18 =>
                    intro w' hSw
                    try dsimp only at hSw
                    go_simp
                    all_goals with_reducible rfl
                  simp only [List.setIfInBounds_toArray, List.set_cons_zero, List.set_cons_succ]
                  refine take_at (i := 19) (d := 158) (v := ?vb19) rfl rfl rfl (by kernel_rfl) (by kernel_rfl) (by kernel_rfl) (fun _ _ _ h => h) hHeld ?ybb19 ?rb19
                  case ybb19 =>
                    intro w' hSw
                    try dsimp only at hSw
                    go_simp
                    all_goals with_reducible rfl
                  simp only [List.setIfInBounds_toArray, List.set_cons_zero, List.set_cons_succ]
                  refine take_at (i := 20) (d := 159) (v := ?vb20) rfl rfl rfl (by kernel_rfl) (by kernel_rfl) (by kernel_rfl) (fun _ _ _ h => h) hHeld ?ybb20 ?rb20
                  case ybb20 =>
                    intro w' hSw
                    try dsimp only at hSw
                    go_simp
                    all_goals with_reducible rfl
                  simp only [List.setIfInBounds_toArray, List.set_cons_zero, List.set_cons_succ]
                  refine take_at (i := 21) (d := 160) (v := ?vb21) rfl rfl rfl (by kernel_rfl) (by kernel_rfl) (by kernel_rfl) (fun _ _ _ h => h) hHeld ?ybb21 ?rb21
                  case ybb21 =>
                    intro w' hSw
                    try dsimp only at hSw
                    go_simp
                    all_goals with_reducible rfl
                  simp only [List.setIfInBounds_toArray, List.set_cons_zero, List.set_cons_succ]
                  refine take_at (i := 22) (d := 161) (v := ?vb22) rfl rfl rfl (by kernel_rfl) (by kernel_rfl) (by kernel_rfl) (fun _ _ _ h => h) hHeld ?ybb22 ?rb22
                  case ybb22 =>
                    intro w' hSw
                    try dsimp only at hSw
                    go_simp
                    all_goals with_reducible rfl
                  simp only [List.setIfInBounds_toArray, List.set_cons_zero, List.set_cons_succ]
                  refine take_at (i := 23) (d := 162) (v := ?vb23) rfl rfl rfl (by kernel_rfl) (by kernel_rfl) (by kernel_rfl) (fun _ _ _ h => h) hHeld ?ybb23 ?rb23
                  case ybb23 =>
                    intro w' hSw
                    try dsimp only at hSw
                    go_simp
                    all_goals with_reducible rfl
                  simp only [List.setIfInBounds_toArray, List.set_cons_zero, List.set_cons_succ]
                  refine take_at (i := 24) (d := 163) (v := ?vb24) rfl rfl rfl (by kernel_rfl) (by kernel_rfl) (by kernel_rfl) (fun _ _ _ h => h) hHeld ?ybb24 ?rb24
                  case ybb24 =>
                    intro w' hSw
                    try dsimp only at hSw
                    go_simp
                    all_goals with_reducible rfl
                  simp only [List.setIfInBounds_toArray, List.set_cons_zero, List.set_cons_succ]
                  have hO := (hMk.lists.owns (p + (first m q + pr)) (by omega)).1
                  have hLl := listsTo_length m par p c (p + (first m q + pr))
                  have hsz := hMk.size
                  have htbl : tb < wk.heap.size := lt_of_cell e0'
                  refine run_at (i := 25) (d := 164) (v := .slice (some ⟨wk.heap.size, 0, none⟩) 1 1) (w' := (wk.alloc (.cells #[.int .i64 (c : Int)] 3)).drew) rfl rfl rfl (by kernel_rfl) ?ybb ?sbb (fun hHeld => ?_)
                  case ybb => go_simp
                  case sbb => exact ⟨(World.cell?_of_block (w := wk) (Below.heap_alloc _ _ _ (lt_of_cell t4))).trans t4, (World.cell?_of_block (w := wk) (Below.heap_alloc _ _ _ (lt_of_cell f0))).trans f0, (World.cell?_of_block (w := wk) (Below.heap_alloc _ _ _ (lt_of_cell e0'))).trans e0', (World.cell?_of_block (w := wk) (Below.heap_alloc _ _ _ (lt_of_cell r0))).trans r0⟩
                  simp only [List.setIfInBounds_toArray, List.set_cons_zero, List.set_cons_succ]
                  refine append_at (i := 26) (d := 165) (wk.alloc (.cells #[.int .i64 (c : Int)] 3)).drew rfl rfl rfl (by kernel_rfl) (.tmp 162) (.tmp 164) 32 rfl base 3 i0 (.int .i64 0) 1 8 Try.underlying32 hi0 hz0 hz1 hz2 rfl (by decide) (V (p + (first m q + pr))) (listsTo m par p c (p + (first m q + pr))).length (numCells (listsTo m par p c (p + (first m q + pr)))) rfl (hO.alloc _).drew ⟨wk.heap.size, 0, none⟩ 1 1 [.int .i64 (c : Int)] rfl rfl ?nwb ?ocb (by decide) ?b1b ?b2b ?b3b (fun g cap w1 a1 a2 a3 a4 => ⟨?sab, fun hHeld => ?_⟩)
                  case nwb => exact World.news_of_block (cs := #[.int .i64 (c : Int)]) (t := 3) (fr := (0, 0)) (heap_alloc_new wk _)
                  case ocb => intro u hu; simp at hu; subst hu; rfl
                  case b1b => unfold maxLen; omega
                  case b2b => omega
                  case b3b => simp; omega
                  case sab =>
                    obtain ⟨hrows, _⟩ := (hMk.alloc (.cells #[.int .i64 (c : Int)] 3)).drew.grown (k0 := p + (first m q + pr)) (by omega) a2
                    have lk := hMk.lk
                    refine ⟨(World.cell?_of_block (hrows (w.heap.size + 1) (by omega))).trans hHeld.1, (World.cell?_of_block (hrows (w.heap.size + 1 + 1) (by omega))).trans hHeld.2.1, ?_, (World.cell?_of_block (hrows H (by omega))).trans hHeld.2.2.2⟩
                    rw [World.grownBy.cell_far a2 ⟨tb, 0, none⟩ (by simp; omega) (fun e => hnt.out (p + (first m q + pr)) (by omega) e.symm)]
                    exact hHeld.2.2.1
                  simp only [List.setIfInBounds_toArray, List.set_cons_zero, List.set_cons_succ]
                  refine take_at (i := 27) (d := 166) (v := ?vb27) rfl rfl rfl (by kernel_rfl) (by kernel_rfl) (by kernel_rfl) (fun _ _ _ h => h) hHeld ?ybb27 ?rb27
                  case ybb27 =>
                    intro w' hSw
                    try dsimp only at hSw
                    go_simp
                    all_goals with_reducible rfl
                  simp only [List.setIfInBounds_toArray, List.set_cons_zero, List.set_cons_succ]
                  refine wpAnyH_done (by kernel_rfl) ?_ _
                  have hrw : w1.rowIs H 32 (first m p) (fun y => V (p + y)) := by
                    obtain ⟨hrows, _⟩ := (hMk.alloc (.cells #[.int .i64 (c : Int)] 3)).drew.grown (k0 := p + (first m q + pr)) (by omega) a2
                    have lk := hMk.lk
                    exact World.rowIs.of_block (hMk.h.alloc (.cells #[.int .i64 (c : Int)] 3)).drew (hrows H (by omega))
                  have rc := hrw.cell hyl
                  have rz := hrw.frozen (first m q + pr)
                  have HN : Hid _ := (hMk.alloc (.cells #[.int .i64 (c : Int)] 3)).drew.kid (i := q) (j := j) (p := pr) hq hj HPR.out hpm rfl HC.out a1 a2 a3
                  clear hrw
                  unfold behind
                  simp only [Exit.then, List.getElem_toArray, List.getElem_cons_succ, List.getElem_cons_zero]
                  go_wp2
                  go_roundg (m q - (j + 1))
                  case measure => rw [HK2.out]; omega
                  case rel =>
                    have hfin := HN.out
                    rw [show c + 1 = first m q + (j + 1) by rw [HC.out]; omega] at hfin
                    exact ⟨j + 1, _, rfl, by omega, by go_num, hfin⟩
              · have ej : j = m q := by omega
                have hM' : Mid w wr A p (first m p) K Sp H base m par (fun x => ky (own m p x) (loc m p x)) (fun x => !(fg (own m p x) (loc m p x)).toList.isEmpty) (first m (q + 1)) (first m (q + 1)) V := by
                  rw [first_succ, ← ej]; exact hM
                have HM' : Hid _ := hM'
                clear hM hM' ej
                go_wp2
                go_roundg (p - (q + 1))
                case measure => rw [HK.out]; omega
                case rel => exact ⟨q + 1, V, rfl, by omega, by go_num, HM'.out⟩
          · as_aux_lemma =>
            have eq : q = p := by omega
            subst eq
            have hL : Lists wr base (q + first m q) V (listsTo m par q (first m q)) := hM.lists
            have hD := Done.of_mid hM (Nat.le_refl _)
            obtain ⟨w0, hw0⟩ : ∃ w0, w0 = wr := ⟨_, rfl⟩
            have hDefs : DefsAt wr A q D S fb nm m par ky fg := by
              exact ⟨fun i hi => (hM.below.cell (p := ⟨A, i, none⟩) (lt_of_cell (h.ptr i hi))).trans (h.ptr i hi), fun i hi => (h.each i hi).below hM.below, h.inj⟩
            go_wp2_with fail
            refine (byName_any A q D S fb nm m par ky fg _ hn hs hDefs).mono ?_
            rintro e w1 ⟨rfl, hmap, hb1⟩
            have hD1 := hD.kept hb1
            obtain ⟨ln, hln, hlen⟩ := hmap.len Try.underlying96 3
            have hmm := run_makeMap_hint (P := Try.prog) Try.underlying70 ln
            go_wp2
            have hD2 := hD1.alloc (.map #[] 0)
            have hm2 : MapIs Try.prog (w1.alloc (.map #[] 0)) 9 wr.heap.size q (byStr fun s => ptrTo D (fragIx fb nm q s)) := hmap.kept (Below.heap_alloc _ _ _ hmap.lt)
            have hi2 : MapIs Try.prog (w1.alloc (.map #[] 0)) 9 w1.heap.size 0 (byStr fun s => intAt (idxTo fb nm q 0 s)) := (MapIs.made _ _ _).congr (fun kl _ => by cases kl <;> first | rfl | (show _ = intAt _; rw [idxTo_zero]; rfl))
            have hne : wr.heap.size ≠ w1.heap.size := by have := hmap.lt; omega
            have hdb2 : Below w.heap.size w (w1.alloc (.map #[] 0)) := hD2.below
            have HL : Hid (Lists wr base (q + first m q) V (listsTo m par q (first m q))) := hL
            clear hmap hb1 hD hD1 hlen hmm hM hL hDefs
            obtain ⟨mb, hmb⟩ : ∃ x, x = wr.heap.size := ⟨_, rfl⟩
            obtain ⟨ib, hib⟩ : ∃ x, x = w1.heap.size := ⟨_, rfl⟩
            rw [← hmb, ← hib]
            rw [← hmb] at hm2 hne
            rw [← hib] at hi2 hne
            have HMB : Hid (mb = wr.heap.size) := hmb
            have hil : wr.heap.size ≤ ib := by have := hm2.lt; simp at this; omega
            clear hmb hib
            obtain ⟨w0, rfl⟩ : ∃ w0 : World, w0 = wr := ⟨_, rfl⟩
            go_loopg [176] q (fun k i wr => ∃ c : Nat, k = q - c ∧ c ≤ q ∧ i = .int .i64 c ∧ Done w w0 wr A q (first m q) K Sp H base (.slice none 0 0) m (fun x => ky (own m q x) (loc m q x)) (fun x => !(fg (own m q x) (loc m q x)).toList.isEmpty) V (fun y => V (q + y)) ∧
                MapIs Try.prog wr 9 mb q (byStr fun s => ptrTo D (fragIx fb nm q s)) ∧ MapIs Try.prog wr 9 ib c (byStr fun s => intAt (idxTo fb nm q c s)))
            case atStart => exact ⟨0, rfl, Nat.zero_le _, rfl, hD2, hm2, hi2⟩
            case round =>
              clear hD2 hm2 hi2 hdb2
              obtain ⟨c, hk, hcq, rfl, hD, hm, hi⟩ := hrel
              have HK : Hid (gk = q - c) := hk
              clear hk
              by_cases hc : c < q
              · as_aux_lemma =>
                have hb' : ∀ {a : Addr} {v : Value}, w.cell? a = some v → wr.cell? a = some v := fun h => (hD.below.cell (lt_of_cell h)).trans h
                have hd := h.each c hc
                have c0 := hb' (h.ptr c hc)
                have c1 := hb' hd.frag
                have c2 := hb' hd.name
                have hsc := hs c hc
                have look := hm.lookStr Try.underlying9 Try.underlying96 (zero87 wr) hsc
                cases hf : fb c with
                | false =>
                  rw [hf] at c1
                  have HR : Hid (MapIs Try.prog wr 9 ib (c + 1) (byStr fun s => intAt (idxTo fb nm q (c + 1) s))) := by
                    have e : (fun s => intAt (idxTo fb nm q (c + 1) s)) = (fun s => intAt (idxTo fb nm q c s)) := by
                      funext s; rw [idxTo_other (fun e => by have := (fragIx_lt q e).2.1; rw [hf] at this; cases this)]
                    rw [e]; exact hi.mono (by omega)
                  have HMM : Hid _ := hm
                  have HDD : Hid _ := hD
                  clear hi hm hD hb' hd hf
                  go_wp2
                  go_roundg (q - (c + 1))
                  case measure => rw [HK.out]; omega
                  case rel => exact ⟨c + 1, rfl, by omega, by go_num, HDD.out, HMM.out, HR.out⟩
                | true =>
                  rw [hf] at c1
                  cases hix : fragIx fb nm q (nm c) with
                  | none => exact absurd ⟨hf, rfl⟩ (fragIx_none q hix c hc)
                  | some d =>
                    rw [hix] at look
                    simp only [ptrTo, Option.map_some, Option.getD_some] at look
                    have hdl := (fragIx_lt q hix).1
                    by_cases hdc : d = c
                    · subst hdc
                      obtain ⟨w2, hst, hF, hg⟩ := hi.storeStr Try.underlying9 Try.underlying70 (by unfold maxLen; omega) hsc (.int .i64 (d : Int))
                      have HR : Hid (MapIs Try.prog w2 9 ib (d + 1) (byStr fun s => intAt (idxTo fb nm q (d + 1) s))) := by
                        refine hF _ ?_ (fun s' hs' => ?_)
                        · show intAt (idxTo fb nm q (d + 1) (nm d)) = _
                          rw [idxTo_here hix]; rfl
                        · show intAt (idxTo fb nm q (d + 1) s') = intAt (idxTo fb nm q d s')
                          rw [idxTo_other (fun e => hs' (fragIx_lt q e).2.2.symm)]
                      have HDD : Hid (Done w w0 w2 A q (first m q) K Sp H base (.slice none 0 0) m (fun x => ky (own m q x) (loc m q x)) (fun x => !(fg (own m q x) (loc m q x)).toList.isEmpty) V (fun y => V (q + y))) := 
                        hD.kept ((Below.refl _ _).grown hg hD.top (fun k e => by cases e; exact hil))
                      have HMM : Hid (MapIs Try.prog w2 9 mb q (byStr fun s => ptrTo D (fragIx fb nm q s))) := hm.kept (hg.block mb hm.lt (fun e => hne (Option.some.inj e)))
                      have hqe := eql_def_same (D d) wr
                      clear hi hm hD hb' hd hf hix hF hg
                      go_wp2
                      go_roundg (q - (d + 1))
                      case measure => rw [HK.out]; omega
                      case rel => exact ⟨d + 1, rfl, by omega, by go_num, HDD.out, HMM.out, HR.out⟩
                    · have hne2 : D d ≠ D c := fun e => hdc (h.inj d c hdl hc e)
                      have HR : Hid (MapIs Try.prog wr 9 ib (c + 1) (byStr fun s => intAt (idxTo fb nm q (c + 1) s))) := by
                        have e : (fun s => intAt (idxTo fb nm q (c + 1) s)) = (fun s => intAt (idxTo fb nm q c s)) := by
                          funext s; rw [idxTo_other (fun e => by have e2 := (fragIx_lt q e).2.2; rw [← e2, hix] at e; exact hdc (Option.some.inj e))]
                        rw [e]; exact hi.mono (by omega)
                      have HMM : Hid _ := hm
                      have HDD : Hid _ := hD
                      have hqe := eql_def_other wr hne2 ((h.each d hdl).below hD.below).here ((h.each c hc).below hD.below).here
                      clear hi hm hD hb' hd hf hix hdc
                      go_wp2
                      go_roundg (q - (c + 1))
                      case measure => rw [HK.out]; omega
                      case rel => exact ⟨c + 1, rfl, by omega, by go_num, HDD.out, HMM.out, HR.out⟩
              · as_aux_lemma =>
                have ec : c = q := by omega
                subst ec
                have t3 := hD.t.cell (show 3 < 7 by omega)
                simp only [tCells] at t3
                have z3 := hD.t.frozen 3
                have t3' : ∀ o, (wr.alloc o).cell? ⟨w.heap.size + 1, 3, none⟩ = some (.slice none 0 0) := fun o => (World.cell?_of_block (w := wr) (Below.heap_alloc _ _ _ (lt_of_cell t3))).trans t3
                have z3' : ∀ o, (wr.alloc o).frozen? ⟨w.heap.size + 1, 3, none⟩ = false := fun o => (World.frozen?_of_block (w := wr) (Below.heap_alloc _ _ _ (lt_of_cell t3))).trans z3
                have hmk6 := run_make_row' (P := Try.prog) 32 3 (.int .i64 0) 8 Try.underlying32 info3 rfl .i64 .i64 (first m c) (by omega) (by omega)
                have hE := Ended.start hD (spreadOf fb nm m fg c)
                have hib : ib < wr.heap.size := hi.lt
                have hi2 : MapIs Try.prog ((wr.alloc (.cells (madeCells #[.int .i64 0] (first m c)) 3)).setCell ⟨w.heap.size + 1, 3, none⟩ (.slice (some ⟨wr.heap.size, 0, none⟩) (first m c) (first m c))) 9 ib c (byStr fun s => intAt (fragIx fb nm c s)) := by
                  have e : (fun s => intAt (idxTo fb nm c c s)) = (fun s => intAt (fragIx fb nm c s)) := by funext s; rw [idxTo_all]
                  rw [← e]
                  obtain ⟨l1, l2, l3, l4, l5, l6, l7, l8, l9, l10⟩ := hD.lk
                  exact hi.kept ((Below.heap_setCell _ _ _ _ (by show ib ≠ w.heap.size + 1; omega)).trans (Below.heap_alloc _ _ _ hib))
                have HEE := Hid.of hE
                have HII := Hid.of hi2
                clear hD hm hi hE hi2 t3
                go_wp2
                obtain ⟨FB, hFB⟩ : ∃ x, x = wr.heap.size := ⟨_, rfl⟩
                obtain ⟨wg, hwg⟩ : ∃ x, x = ((wr.alloc (.cells (madeCells #[.int .i64 0] (first m c)) 3)).setCell ⟨w.heap.size + 1, 3, none⟩ (.slice (some ⟨wr.heap.size, 0, none⟩) (first m c) (first m c))) := ⟨_, rfl⟩
                have hE := HEE.out
                have hI := HII.out
                rw [← hwg, ← hFB] at hE
                rw [← hwg] at hI
                rw [← hwg]
                have hibF : ib ≠ FB := by omega
                clear HEE HII hmk6 t3' z3' z3 hwg hFB hib
                obtain ⟨w3, rfl⟩ : ∃ w3 : World, w3 = wr := ⟨_, rfl⟩
                go_loopg [209] c (fun k i wr => ∃ q : Nat, k = c - q ∧ q ≤ c ∧ i = .int .i64 q ∧ Ended w w0 wr A c (first m c) K Sp H base FB m (fun x => ky (own m c x) (loc m c x)) (fun x => !(fg (own m c x) (loc m c x)).toList.isEmpty) V (spreadOf fb nm m fg c) (first m q) ∧ MapIs Try.prog wr 9 ib c (byStr fun s => intAt (fragIx fb nm c s)))
                case atStart => exact ⟨0, rfl, Nat.zero_le _, rfl, hE, hI⟩
                case round =>
                  clear hE hI
                  obtain ⟨q, hk, hqc, rfl, hE, hI⟩ := hrel
                  have HK := Hid.of hk
                  clear hk
                  by_cases hq : q < c
                  · as_aux_lemma =>
                    have hd := h.each q hq
                    have hb' : ∀ {a : Addr} {v : Value}, w.cell? a = some v → wr.cell? a = some v := fun h => (hE.d.below.cell (lt_of_cell h)).trans h
                    have c0 := hb' (h.ptr q hq)
                    have c1 := hb' hd.sels
                    have HE := Hid.of hE
                    have HI := Hid.of hI
                    have hmq : m q ≤ first m c := by
                      have := first_mono (m := m) (show q + 1 ≤ c by omega)
                      rw [first_succ] at this; omega
                    clear hE hI hb'
                    go_wp2
                    obtain ⟨wo, rfl⟩ : ∃ wo : World, wo = wr := ⟨_, rfl⟩
                    obtain ⟨g0, rfl⟩ : ∃ g0 : Nat, g0 = gk := ⟨_, rfl⟩
                    go_loopg [219] (m q) (fun k i wr => ∃ j : Nat, k = m q - j ∧ j ≤ m q ∧ i = .int .i64 j ∧ Ended w w0 wr A c (first m c) K Sp H base FB m (fun x => ky (own m c x) (loc m c x)) (fun x => !(fg (own m c x) (loc m c x)).toList.isEmpty) V (spreadOf fb nm m fg c) (first m q + j) ∧ MapIs Try.prog wr 9 ib c (byStr fun s => intAt (fragIx fb nm c s)))
                    case atStart => exact ⟨0, rfl, Nat.zero_le _, rfl, HE.out, HI.out⟩
                    case round =>
                      clear HE HI
                      obtain ⟨j, hk2, hjm, rfl, hE, hI⟩ := hrel
                      have HK2 := Hid.of hk2
                      clear hk2
                      by_cases hj : j < m q
                      · as_aux_lemma =>
                        have hb' : ∀ {a : Addr} {v : Value}, w.cell? a = some v → wr.cell? a = some v := fun h => (hE.d.below.cell (lt_of_cell h)).trans h
                        have s0 : wr.cell? ⟨S q, j * 6, none⟩ = some (.int .i64 (par q j)) := hb' (hd.sel j 0 hj (by omega))
                        have s1 : wr.cell? ⟨S q, j * 6 + 1, none⟩ = some (.string (ky q j)) := hb' (hd.sel j 1 hj (by omega))
                        have s2 : wr.cell? ⟨S q, j * 6 + 2, none⟩ = some (.string (fg q j)) := hb' (hd.sel j 2 hj (by omega))
                        have s3 : wr.cell? ⟨S q, j * 6 + 3, none⟩ = some (.string ByteArray.empty) := hb' (hd.sel j 3 hj (by omega))
                        have s4 : wr.cell? ⟨S q, j * 6 + 4, none⟩ = some (.int .i64 0) := hb' (hd.sel j 4 hj (by omega))
                        have s5 : wr.cell? ⟨S q, j * 6 + 5, none⟩ = some (.int .i64 0) := hb' (hd.sel j 5 hj (by omega))
                        have f0 : wr.cell? ⟨w.heap.size + 1 + 1, q, none⟩ = some (.int .i64 (first m q)) := by
                          have := hE.d.f.cell (show q < c + 1 by omega)
                          rw [this]; unfold firstTo; rw [if_pos hqc]
                        have f0' : ∀ o, (wr.alloc o).cell? ⟨w.heap.size + 1 + 1, q, none⟩ = some (.int .i64 (first m q)) := fun o => (World.cell?_of_block (w := wr) (Below.heap_alloc _ _ _ (lt_of_cell f0))).trans f0
                        have hle := place_lt (m := m) hq hj
                        have hfz := hfs q j hq hj
                        have HE := Hid.of hE
                        have HI := Hid.of hI
                        clear hb' hE hI c0 c1 f0
                        go_upto_region 40 with fail
                        obtain ⟨ws, hws⟩ : ∃ ws, ws = wr.alloc (.cells #[.int .i64 (par q j), .string (ky q j), .string (fg q j), .string ByteArray.empty, .int .i64 0, .int .i64 0] 95) := ⟨_, rfl⟩
                        rw [← hws]
                        have hEs : Ended w w0 ws A c (first m c) K Sp H base FB m (fun x => ky (own m c x) (loc m c x)) (fun x => !(fg (own m c x) (loc m c x)).toList.isEmpty) V (spreadOf fb nm m fg c) (first m q + j) := by rw [hws]; exact HE.out.alloc _
                        have hIs : MapIs Try.prog ws 9 ib c (byStr fun s => intAt (fragIx fb nm c s)) := by rw [hws]; exact HI.out.kept (Below.heap_alloc _ _ _ HI.out.lt)
                        obtain ⟨tb, htb⟩ : ∃ tb, tb = wr.heap.size := ⟨_, rfl⟩
                        rw [← htb]
                        have e2 : ws.cell? ⟨tb, 2, none⟩ = some (.string (fg q j)) := by rw [hws, htb]; simp
                        have htl : w0.heap.size ≤ tb := by rw [htb]; exact HE.out.d.top
                        have htF : FB < tb := by rw [htb]; exact HE.out.g.lt
                        have hti : ib < tb := by rw [htb]; exact HI.out.lt
                        clear htb hws HE HI s0 s1 s2 s3 s4 s5 f0'
                        obtain ⟨x, hx⟩ : ∃ x, x = first m q + j := ⟨_, rfl⟩
                        rw [← hx] at hEs hle
                        rw [show ((first m q : Int) + (j : Int)) = (x : Int) by omega]
                        have HX : Hid (x = first m q + j) := hx
                        have hown : spreadOf fb nm m fg c x = if (fg q j).toList.isEmpty then none else fragIx fb nm c (fg q j) := by
                          unfold spreadOf
                          rw [hx, own_eq c q j hq hj, loc_eq hq hj]
                        clear hx
                        have t3 := hEs.d.t.cell (show 3 < 7 by omega)
                        simp only [tCells] at t3
                        have g1 := hEs.g.cell hle
                        have z1 := hEs.g.frozen x
                        have ci0 : (0 : Int) ≤ (x : Int) := by omega
                        have ci1 : (x : Int) < (first m c : Int) := by omega
                        have HE := Hid.of hEs
                        have HI := Hid.of hIs
                        have HO := Hid.of hown
                        clear hEs hIs hown
                        go_upto_region 41 with fail
                        obtain ⟨wn, hwn⟩ : ∃ wn, wn = ws.setCell ⟨FB, x, none⟩ (.int .i64 (-1)) := ⟨_, rfl⟩
                        rw [← hwn]
                        have hIn : MapIs Try.prog wn 9 ib c (byStr fun s => intAt (fragIx fb nm c s)) := by rw [hwn]; exact HI.out.kept (Below.heap_setCell _ _ _ _ hibF)
                        have look := hIn.lookStr_ok Try.underlying9 Try.underlying70 (zero3 wn) hfz
                        have e2n : wn.cell? ⟨tb, 2, none⟩ = some (.string (fg q j)) := by
                          rw [hwn, World.cell?_setCell_other _ _ _ _ (by intro e; injection e with e; omega)]; exact e2
                        have HIn := Hid.of hIn
                        have HWN := Hid.of hwn
                        clear hIn hwn t3 g1 z1 e2
                        by_cases hemp : (fg q j).toList.isEmpty = true
                        · as_aux_lemma =>
                          have hfin : Hid (Ended w w0 wn A c (first m c) K Sp H base FB m (fun x => ky (own m c x) (loc m c x)) (fun x => !(fg (own m c x) (loc m c x)).toList.isEmpty) V (spreadOf fb nm m fg c) (first m q + (j + 1))) := by
                            have := HE.out.lone (by rw [HO.out, if_pos hemp])
                            rw [show x + 1 = first m q + (j + 1) by rw [HX.out]; omega, ← HWN.out] at this
                            exact this
                          clear HE HI HO HWN
                          cases hfx : fragIx fb nm c (fg q j) with
                          | none =>
                            simp only [hfx, intAt, Option.map_none, Option.getD_none, Option.isSome_none] at look
                            clear hfx
                            go_wp2
                            go_roundg (m q - (j + 1))
                            case measure => rw [HK2.out]; omega
                            case rel => exact ⟨j + 1, rfl, by omega, by go_num, hfin.out, HIn.out⟩
                          | some d =>
                            simp only [hfx, intAt, Option.map_some, Option.getD_some, Option.isSome_some] at look
                            clear hfx
                            go_wp2
                            go_roundg (m q - (j + 1))
                            case measure => rw [HK2.out]; omega
                            case rel => exact ⟨j + 1, rfl, by omega, by go_num, hfin.out, HIn.out⟩
                        · as_aux_lemma =>
                          cases hfx : fragIx fb nm c (fg q j) with
                          | none =>
                            have hfin : Hid (Ended w w0 wn A c (first m c) K Sp H base FB m (fun x => ky (own m c x) (loc m c x)) (fun x => !(fg (own m c x) (loc m c x)).toList.isEmpty) V (spreadOf fb nm m fg c) (first m q + (j + 1))) := by
                              have := HE.out.lone (by rw [HO.out, if_neg hemp, hfx])
                              rw [show x + 1 = first m q + (j + 1) by rw [HX.out]; omega, ← HWN.out] at this
                              exact this
                            simp only [hfx, intAt, Option.map_none, Option.getD_none, Option.isSome_none] at look
                            clear hfx HE HI HO HWN
                            go_wp2
                            go_roundg (m q - (j + 1))
                            case measure => rw [HK2.out]; omega
                            case rel => exact ⟨j + 1, rfl, by omega, by go_num, hfin.out, HIn.out⟩
                          | some d =>
                            have hdc := (fragIx_lt c hfx).1
                            obtain ⟨va, vl, vc, hV⟩ : ∃ va vl vc, V d = .slice va vl vc := by
                              rcases (HL.out.owns d (by omega)).listAt with ⟨_, e⟩ | ⟨_, g, cap, e, _⟩
                              · exact ⟨_, _, _, e⟩
                              · exact ⟨_, _, _, e⟩
                            have hDn : Done w w0 wn A c (first m c) K Sp H base (.slice (some ⟨FB, 0, none⟩) (first m c) (first m c)) m (fun x => ky (own m c x) (loc m c x)) (fun x => !(fg (own m c x) (loc m c x)).toList.isEmpty) V (heldTo V c (spreadOf fb nm m fg c) x) := by
                              rw [HWN.out]; exact HE.out.d.new HE.out.lo _
                            obtain ⟨gf, hgn⟩ : ∃ gf, wn.rowIs FB 3 (first m c) gf := ⟨_, by rw [HWN.out]; exact HE.out.g.set x _⟩
                            obtain ⟨l1, l2, l3, l4, l5, l6, l7, l8, l9, l10⟩ := hDn.lk
                            have hlo := HE.out.lo
                            have t3 := hDn.t.cell (show 3 < 7 by omega)
                            have t4 := hDn.t.cell (show 4 < 7 by omega)
                            have t5 := hDn.t.cell (show 5 < 7 by omega)
                            simp only [tCells] at t3 t4 t5
                            have r0 := hDn.r.cell hdc
                            rw [hV] at r0
                            have g1 := hgn.cell hle
                            have z1 := hgn.frozen x
                            have h1 := hDn.h.cell hle
                            have y1 := hDn.h.frozen x
                            have n1 : FB ≠ w.heap.size + 1 := by omega
                            have n2 : FB ≠ w.heap.size := by omega
                            have n3 : H ≠ w.heap.size + 1 := by omega
                            have n4 : H ≠ w.heap.size := by omega
                            have n5 : FB ≠ H := by omega
                            have n6 : H ≠ FB := by omega
                            have di0 : (0 : Int) ≤ (d : Int) := by omega
                            have di1 : (d : Int) < (c : Int) := by omega
                            have hfin : Hid (Ended w w0 ((wn.setCell ⟨FB, x, none⟩ (.int .i64 (d : Int))).setCell ⟨H, x, none⟩ (.slice va vl vc)) A c (first m c) K Sp H base FB m (fun x => ky (own m c x) (loc m c x)) (fun x => !(fg (own m c x) (loc m c x)).toList.isEmpty) V (spreadOf fb nm m fg c) (first m q + (j + 1))) := by
                              have := HE.out.spread (show spreadOf fb nm m fg c x = some d by rw [HO.out, if_neg hemp, hfx])
                              rw [show x + 1 = first m q + (j + 1) by rw [HX.out]; omega, ← HWN.out, hV] at this
                              exact this
                            have hIf : Hid (MapIs Try.prog ((wn.setCell ⟨FB, x, none⟩ (.int .i64 (d : Int))).setCell ⟨H, x, none⟩ (.slice va vl vc)) 9 ib c (byStr fun s => intAt (fragIx fb nm c s))) :=
                              HIn.out.kept ((Below.heap_setCell _ _ _ _ (by show ib ≠ H; omega)).trans (Below.heap_setCell _ _ _ _ hibF))
                            simp only [hfx, intAt, Option.map_some, Option.getD_some, Option.isSome_some] at look
                            clear hfx HE HI HO HWN hDn hgn hV l1 l2 l3 l4 l5 l6 l7 l8 l9 l10
                            go_wp2
                            go_region_held3 (fun w' => w'.cell? ⟨w.heap.size + 1, 3, none⟩ = some (.slice (some ⟨FB, 0, none⟩) (first m c) (first m c)) ∧ w'.cell? ⟨w.heap.size + 1, 4, none⟩ = some (.slice (some ⟨H, 0, none⟩) (first m c) (first m c)) ∧ w'.cell? ⟨w.heap.size + 1, 5, none⟩ = some (.slice (some ⟨w.heap.size, 0, none⟩) c c) ∧ w'.cell? ⟨w.heap.size, d, none⟩ = some (.slice va vl vc)) (go_keep) (fail)
                            go_wp2
                            go_roundg (m q - (j + 1))
                            case measure => rw [HK2.out]; omega
                            case rel => exact ⟨j + 1, rfl, by omega, by go_num, hfin.out.drew, hIf.out.kept rfl⟩
                      · have ej : j = m q := by omega
                        have hE' : Ended w w0 wr A c (first m c) K Sp H base FB m (fun x => ky (own m c x) (loc m c x)) (fun x => !(fg (own m c x) (loc m c x)).toList.isEmpty) V (spreadOf fb nm m fg c) (first m (q + 1)) := by
                          rw [first_succ, ← ej]; exact hE
                        have HE' := Hid.of hE'
                        have HI' := Hid.of hI
                        clear hE hE' hI ej
                        go_wp2
                        go_roundg (c - (q + 1))
                        case measure => rw [HK.out]; omega
                        case rel => exact ⟨q + 1, rfl, by omega, by go_num, HE'.out, HI'.out⟩
                  · have eq : q = c := by omega
                    subst eq
                    have HE := Hid.of hE
                    clear hE hI
                    go_wp2
                    go_ret
                    exact ⟨rfl, K, Sp, H, FB, base, w0, V, HE.out, HL.out⟩

end Go.Proofs.Qxb6602394a.T
