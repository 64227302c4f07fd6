/-
  A REGION THAT DRAWS ITS ORDER, WHOSE LAST OPERATION WAITS FOR ALL OTHERS ('t.roots[i] = append(t.roots[i], x)': the store waits for everything): the others in whatever order, then that one. So a cell that the last operation overwrites may be named among what the loads of the others read.
-/
import Derived.OrdersHeld
import Derived.Deep.RegionHeld
import Derived.Tactics
import Derived.Deep.AppendLies
namespace Go.Proofs.Qxb6602394a.T

section
variable {P : Program} {ops : Array Oper} {Q : Exit → Act → World → Prop} {md : Region.Mode}

/-- Every operation waits for earlier ones alone; number 'st' waits for all others. -/
def lastB (md : Region.Mode) (ops : Array Oper) (st : Nat) : Bool :=
  decide (st < ops.size) &&
  ((List.range ops.size).all fun i => i == st || ((ops[st]?).map (·.after.toList.any fun e => Region.binds md e && e.on == i)).getD false) &&
  ((List.range ops.size).all fun i => ((ops[i]?).map (·.after.all fun e => !Region.binds md e || decide (e.on < i))).getD false)

theorem lastB_spec {st : Nat} (h : lastB md ops st = true) :
    st < ops.size ∧ (∀ i, i < ops.size → i ≠ st → ∃ o, ops[st]? = some o ∧ ∃ e ∈ o.after, Region.binds md e = true ∧ e.on = i) ∧
    (∀ i o, ops[i]? = some o → ∀ e ∈ o.after, Region.binds md e = true → e.on < i) := by
  simp only [lastB, Bool.and_eq_true, decide_eq_true_eq, List.all_eq_true, List.mem_range] at h
  obtain ⟨⟨h1, h2⟩, h3⟩ := h
  refine ⟨h1, fun i hi hne => ?_, fun i o ho e he hb => ?_⟩
  · have := h2 i hi
    rw [Bool.or_eq_true] at this
    rcases this with h | h
    · exact absurd (by simpa using h) hne
    · cases ho : ops[st]? with
      | none => rw [ho] at h; cases h
      | some o =>
        rw [ho] at h
        simp only [Option.map_some, Option.getD_some, List.any_eq_true, Bool.and_eq_true, beq_iff_eq] at h
        obtain ⟨e, he, hb, hon⟩ := h
        exact ⟨o, rfl, e, by simpa using he, hb, hon⟩
  · have hi : i < ops.size := (Array.getElem?_eq_some_iff.1 ho).1
    have := h3 i hi
    rw [ho] at this
    simp only [Option.map_some, Option.getD_some, Array.all_eq_true_iff_forall_mem] at this
    have := this e he
    rw [hb] at this
    simpa using this

/-- While something is unlisted, something may come up. -/
theorem ready_ne {st : Nat} (h : lastB md ops st = true) {listed : Array Bool} (hs : listed.size = ops.size) : ∀ j, j < ops.size → listed.getD j true = false → Region.ready md ops listed ≠ [] := by
  obtain ⟨_, _, h3⟩ := lastB_spec h
  intro j
  induction j using Nat.strongRecOn with
  | _ j ih =>
    intro hj hun hnil
    have ho : ops[j]? = some ops[j] := by simp [hj]
    by_cases hall : ∀ e ∈ ops[j].after, Region.binds md e = true → listed.getD e.on false = true
    · have : j ∈ Region.ready md ops listed := mem_ready.2 ⟨hun, _, ho, hall⟩
      rw [hnil] at this; cases this
    · simp only [Classical.not_forall] at hall
      obtain ⟨e, he, hb, hl⟩ := hall
      have hlt := h3 j _ ho e he hb
      refine ih e.on hlt (by omega) ?_ hnil
      have hsz : e.on < listed.size := by omega
      simp [hsz] at hl ⊢
      exact hl

/-- Q, with what the last operation does in the place of the normal exit. -/
def behind (P : Program) (ops : Array Oper) (Q : Exit → Act → World → Prop) (o : Oper) : Exit → Act → World → Prop :=
  Exit.then (fun a w => wpList P ops Q [o] a w) Q

theorem wpOp_behind {i : Nat} {o : Oper} {K : Act → World → Prop} {a : Act} {w : World} (h : wpOp P ops (behind P ops Q o) i K a w) : wpOp P ops Q i K a w := by
  unfold wpOp at *
  cases hi : ops[i]? with
  | none => rw [hi] at h; exact h
  | some x =>
    rw [hi] at h
    simp only at h ⊢
    split
    · rename_i hw
      rw [if_pos hw] at h
      rcases h with h | ⟨h1, h2⟩
      · refine .inl ?_
        unfold Oper.wp at *
        generalize (execOp a.eval x).run P w = r at *
        cases r with
        | ok n w' =>
          cases n <;> simp only [Oper.upon] at h ⊢ <;>
            first
              | exact h
              | exact Calls.mono h (fun e w'' he => by cases e <;> exact he)
              | exact Rows.mono h (fun _ _ he => he)
        | halt y w' => cases y <;> simp only [Oper.upon] at h ⊢ <;> exact h
      · exact .inr ⟨h1, h2⟩
    · rename_i hw
      rw [if_neg hw] at h
      exact h

theorem wpAny_last {st : Nat} {o : Oper} (hB : lastB md ops st = true) (ho : ops[st]? = some o) : ∀ (fuel : Nat) (listed : Array Bool) (a : Act) (w : World), listed.size = ops.size → listed.getD st true = false →
    wpAny P md ops (behind P ops Q o) fuel (listed.setIfInBounds st true) a w → wpAny P md ops Q (fuel + 1) listed a w := by
  obtain ⟨h1, h2, h3⟩ := lastB_spec hB
  intro fuel
  induction fuel with
  | zero =>
    intro listed a w hs hun H
    refine ⟨fun h => absurd h (ready_ne hB hs st h1 hun), fun i hi => ?_⟩
    by_cases e : i = st
    · subst e
      have hq : wpList P ops Q [o] a w := H.2
      have : wpOp P ops Q i (fun a w => Q .normal a w) a w := by
        unfold wpOp; rw [ho]; exact hq
      refine wpOp_mono (fun a' w' hQ => ⟨H.1, hQ⟩) this
    · have := ready_mono hi e
      rw [H.1] at this; cases this
  | succ fuel ih =>
    intro listed a w hs hun H
    refine ⟨fun h => absurd h (ready_ne hB hs st h1 hun), fun i hi => ?_⟩
    by_cases e : i = st
    · subst e
      have hnil : Region.ready md ops (listed.setIfInBounds i true) = [] := by
        cases hr : Region.ready md ops (listed.setIfInBounds i true) with
        | nil => rfl
        | cons j js =>
          have hj : j ∈ Region.ready md ops (listed.setIfInBounds i true) := by rw [hr]; simp
          obtain ⟨hjun, oj, hoj, _⟩ := mem_ready.1 hj
          have hjs : j < ops.size := (Array.getElem?_eq_some_iff.1 hoj).1
          by_cases ej : j = i
          · subst ej
            simp [hs, hjs] at hjun
          · obtain ⟨o', ho', e', he', hb', hon⟩ := h2 j hjs ej
            obtain ⟨_, o'', ho'', hall⟩ := mem_ready.1 hi
            rw [ho'] at ho''
            obtain rfl := Option.some.inj ho''
            have hl := hall e' he' hb'
            rw [hon] at hl
            rw [getD_set_ne true (Ne.symm ej)] at hjun
            simp [hs, hjs] at hl hjun
            rw [hl] at hjun; cases hjun
      have hq : wpList P ops Q [o] a w := H.1 hnil
      have : wpOp P ops Q i (fun a w => Q .normal a w) a w := by
        unfold wpOp; rw [ho]; exact hq
      exact wpOp_mono (fun a' w' hQ => ⟨fun _ => hQ, fun k hk => by rw [hnil] at hk; cases hk⟩) this
    · have hr := H.2 i (ready_mono hi e)
      refine wpOp_mono (fun a' w' h => ?_) (wpOp_behind hr)
      refine ih (listed.setIfInBounds i true) a' w' (by simpa using hs) ?_ ?_
      · rw [getD_set_ne true e]; exact hun
      · rw [Array.setIfInBounds_comm _ _ e]; exact h

/-- THE BEGINNING: the last operation is laid by; the others are walked under S. -/
theorem wp_region_last {S : World → Prop} {id : Nat} {a : Act} {w : World} {fuel : Nat} (hm : P.follows .mixedOrders = true) (st : Nat) (o : Oper) (ho : ops[st]? = some o) (hB : lastB .any ops st = true) (hf : fuel + 1 = ops.size) (hS : S w.drew)
    (h : S w.drew → wpAnyH P .any ops (behind P ops Q o) S fuel ((Array.replicate ops.size false).setIfInBounds st true) a w.drew) : (Code.region id ops true).wp P Q a w := by
  refine wp_region_any hm ?_
  rw [← hf]
  obtain ⟨h1, _, _⟩ := lastB_spec hB
  exact wpAny_last hB ho fuel _ a _ (by simp [hf]) (by simp [hf, h1]) (wpAny_of_held _ _ _ _ (by rw [hf]; exact h hS))

/-- 'wpAnyH_take', its slot by number: so that the state can be laid out. -/
theorem take_at {S : World → Prop} {i d : Nat} {oi : Oper} {v : Value} {fuel : Nat} {listed : Array Bool} {t : Array Value} {ds : List Deferred} {w : World} (hi : ops[i]? = some oi) (hd : oi.dst = some d) (hg : oi.guard = none)
    (hs : Region.noSelect ops = true) (hf : Region.free md ops listed i = true) (hr : (Region.ready md ops listed).contains i = true)
    (hQ : ∀ c a w, Q (.panic c) (a.put oi.dst v) w → Q (.panic c) a w) (hS : S w) (hy : ∀ w, S w → (execOp (Act.eval ⟨t, ds⟩) oi).run P w = .ok (.value v) w)
    (h : wpAnyH P md ops Q S fuel (listed.setIfInBounds i true) ⟨t.setIfInBounds d v, ds⟩ w) : wpAnyH P md ops Q S (fuel + 1) listed ⟨t, ds⟩ w := by
  refine wpAnyH_take hi hs hf hr hQ (.inl ⟨by simp [Region.wanted, hg], hy⟩) hS ?_
  rw [hd]
  exact h

/-- One operation that is carried out now: it is the only one that may come up. -/
theorem step_at {S : World → Prop} {i : Nat} {oi : Oper} {fuel : Nat} {listed : Array Bool} {a : Act} {w : World} (hi : ops[i]? = some oi) (hg : oi.guard = none) (hr : Region.ready md ops listed = [i])
    (h : ∀ K : Act → World → Prop, Shut (∀ a w, S w → wpAnyH P md ops Q S fuel (listed.setIfInBounds i true) a w → K a w) → Oper.wp P oi a w K Q) : wpAnyH P md ops Q S (fuel + 1) listed a w := by
  refine wpAnyH_ready hr (by simp) (AllReadyH.cons hi (fun K hK => ?_) AllReadyH.nil)
  rw [if_pos (by simp [Region.wanted, hg])]
  exact h K (fun a w hS hW => hK.out a w hS (fun _ => hW))

/-- .. one that runs to a value. -/
theorem run_at {S : World → Prop} {i d : Nat} {oi : Oper} {v : Value} {fuel : Nat} {listed : Array Bool} {t : Array Value} {ds : List Deferred} {w w' : World} (hi : ops[i]? = some oi) (hd : oi.dst = some d) (hg : oi.guard = none) (hr : Region.ready md ops listed = [i])
    (hy : (execOp (Act.eval ⟨t, ds⟩) oi).run P w = .ok (.value v) w') (hS : S w') (h : S w' → wpAnyH P md ops Q S fuel (listed.setIfInBounds i true) ⟨t.setIfInBounds d v, ds⟩ w') : wpAnyH P md ops Q S (fuel + 1) listed ⟨t, ds⟩ w := by
  refine step_at hi hg hr (fun K hK => ?_)
  unfold Oper.wp
  rw [hy]
  simp only [Oper.upon]
  refine hK.out _ _ hS ?_
  rw [hd]
  exact h hS

/-- .. an append. -/
theorem append_at {S : World → Prop} {i d : Nat} {oi : Oper} {fuel : Nat} {listed : Array Bool} {tm : Array Value} {ds : List Deferred} (w : World) (hi : ops[i]? = some oi) (hd : oi.dst = some d) (hg : oi.guard = none) (hr : Region.ready md ops listed = [i])
    (s x : Operand) (t : TypeId) (ho : oi.op = .call { callee := .builtin .append, args := #[s, x], argTypes := #[t, t] })
    (base : Nat) (e : TypeId) (inf : TypeInfo) (z : Value) (size bytes : Nat) (ht : P.underlying t = some (.slice e)) (hif : P.info? e = some inf) (hz : inf.zero = some z)
    (hsize : inf.size = size) (hby : inf.bytes = bytes) (hzs : z.cells.size = size) (hsz : 0 < size)
    (v : Value) (n : Nat) (xs : List Value) (hs : Act.eval ⟨tm, ds⟩ s = v) (hown : w.ownsRow base e size v n xs)
    (ad : Addr) (m c : Nat) (news : List Value) (hx : Act.eval ⟨tm, ds⟩ x = .slice (some ad) m c) (hl : news.length = m * size) (hnews : ∀ j u, news[j]? = some u → w.cell? (ad.add j) = some u) (h1 : ∀ u ∈ news, u.oneCell' = true)
    (hm : 0 < m) (h63 : n + m ≤ maxLen) (hbytes : (n + m) * bytes ≤ 140737488355328) (hbase : base ≤ w.heap.size)
    (h : ∀ g cap w', w'.ownsRow base e size (.slice (some ⟨g, 0, none⟩) (n + m) cap) (n + m) (xs ++ news) → w.grownBy w' v.ownBlock → (v.ownBlock = some g ∨ g = w.heap.size) → g < w'.heap.size →
      S w' ∧ (S w' → wpAnyH P md ops Q S fuel (listed.setIfInBounds i true) ⟨tm.setIfInBounds d (.slice (some ⟨g, 0, none⟩) (n + m) cap), ds⟩ w')) : wpAnyH P md ops Q S (fuel + 1) listed ⟨tm, ds⟩ w := by
  refine step_at hi hg hr (fun K hK => ?_)
  refine wp_append_lies w s x t ho base e inf z size bytes ht hif hz hsize hby hzs hsz v n xs hs hown ad m c news hx hl hnews h1 hm h63 hbytes hbase w.heap.size rfl (fun g cap w' a1 a2 a3 a4 => ?_)
  obtain ⟨b1, b2⟩ := h g cap w' a1 a2 a3 a4
  refine hK.out _ _ b1 ?_
  rw [hd]
  exact b2 b1

end
end Go.Proofs.Qxb6602394a.T
