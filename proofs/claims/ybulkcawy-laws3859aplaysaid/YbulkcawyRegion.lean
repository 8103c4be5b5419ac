/-
  A LAW FOR A REGION THAT DRAWS ITS ORDER, BY AN INVARIANT: no order is enumerated. Each operation, whenever it may come, leaves its own fact; facts stay.
-/
import Derived.WalkKit
import Derived.Orders
namespace Go.Proofs.Ybulkcawy
open Go.RowKit
set_option linter.unusedSimpArgs false
set_option linter.unusedVariables false

section
variable {P : Program} {ops : Array Oper} {Q : Exit → Act → World → Prop} {md : Region.Mode}

/-- How many are not listed yet. -/
def unlisted (n : Nat) (l : Array Bool) : Nat := (List.range n).countP fun j => !l.getD j true

theorem countP_drop {p p' : Nat → Bool} {i : Nat} (hp : ∀ j, p' j = (p j && j != i)) : ∀ (l : List Nat), l.Nodup → i ∈ l → p i = true → l.countP p' + 1 = l.countP p
  | [], _, h, _ => by cases h
  | x :: l, hn, h, hi => by
    rw [List.nodup_cons] at hn
    by_cases e : x = i
    · subst e
      have : l.countP p' = l.countP p := List.countP_congr fun j hj => by
        have : j ≠ x := fun e => hn.1 (e ▸ hj)
        simp [hp, this]
      simp [List.countP_cons, hp, hi, this]
    · have h' : i ∈ l := by
        rcases List.mem_cons.1 h with h | h
        · exact absurd h.symm e
        · exact h
      have ih := countP_drop hp l hn.2 h' hi
      simp only [List.countP_cons, hp, e, bne_iff_ne, ne_eq, not_false_eq_true, Bool.and_true]
      have e' : (x != i) = true := by simp [e]
      rw [e', Bool.and_true]
      omega

theorem unlisted_set {n i : Nat} {l : Array Bool} (hl : l.size = n) (hi : i < n) (h : l.getD i true = false) : unlisted n (l.setIfInBounds i true) + 1 = unlisted n l := by
  refine countP_drop (i := i) (fun j => ?_) _ List.nodup_range (List.mem_range.2 hi) (by simp [h])
  by_cases e : j = i
  · subst e
    simp [Array.getD, hl, hi]
  · by_cases hj : j < n
    · simp [Array.getD, hl, hj, e, Array.getElem_setIfInBounds, Ne.symm e]
    · simp [Array.getD, hl, hj]

theorem ready_mem {i : Nat} {l : Array Bool} (h : i ∈ Region.ready md ops l) : i < ops.size ∧ l.getD i true = false ∧ ∀ o, ops[i]? = some o → ∀ e ∈ o.after, Region.binds md e = true → l.getD e.on false = true := by
  simp only [Region.ready, List.mem_filter, List.mem_range, Bool.and_eq_true, Bool.not_eq_true'] at h
  refine ⟨h.1, h.2.1, fun o ho e he hb => ?_⟩
  have h3 := h.2.2
  rw [ho] at h3
  simp only [Option.map_some, Option.getD_some, Array.all_eq_true'] at h3
  have := h3 e he
  simpa [hb] using this

theorem ready_nil {l : Array Bool} (hl : l.size = ops.size) (h : unlisted ops.size l = 0) : Region.ready md ops l = [] := by
  rw [List.eq_nil_iff_forall_not_mem]
  intro i hi
  obtain ⟨h1, h2, _⟩ := ready_mem hi
  have := List.countP_eq_zero.1 h i (List.mem_range.2 h1)
  simp [h2] at this

theorem wpAny_inv (I : Array Bool → Act → World → Prop)
    (step : ∀ l a w i, l.size = ops.size → I l a w → i ∈ Region.ready md ops l → wpOp P ops Q i (fun a' w' => I (l.setIfInBounds i true) a' w') a w)
    (done : ∀ l a w, l.size = ops.size → I l a w → Region.ready md ops l = [] → Q .normal a w) :
    ∀ (fuel : Nat) (l : Array Bool) (a : Act) (w : World), l.size = ops.size → unlisted ops.size l ≤ fuel → I l a w → wpAny P md ops Q fuel l a w := by
  intro fuel
  induction fuel with
  | zero =>
    intro l a w hl hu hI
    have hr := ready_nil (md := md) hl (Nat.le_zero.1 hu)
    exact ⟨hr, done l a w hl hI hr⟩
  | succ fuel ih =>
    intro l a w hl hu hI
    refine ⟨fun hr => done l a w hl hI hr, fun i hi => ?_⟩
    refine wpOp_mono (fun a' w' h => ?_) (step l a w i hl hI hi)
    obtain ⟨h1, h2, _⟩ := ready_mem hi
    have := unlisted_set hl h1 h2
    exact ih _ a' w' (by simpa using hl) (by omega) h

/-- THE LAW. 'mk u': the frame in which operation k's slot holds 'u k'; 'φ k v w': what is known of the value v that operation k has left; it stays behind every other operation ('R i': what operation i does to the world); 'ψ': what holds between the values of two operations. -/
theorem region_facts {id : Nat} (hm : P.follows .mixedOrders = true) (mk : (Nat → Value) → Act) (φ : Nat → Value → World → Prop) (ψ : Nat → Nat → Value → Value → Prop) (J : World → Prop) (R : Nat → World → World → Prop)
    (hg : (ops.toList.all fun o => o.guard.isNone) = true)
    (ho : ((List.range ops.size).all fun i => match ops[i]? with | some o => o.after.toList.all fun e => !Region.binds .any e || decide (e.on < i) | none => true) = true)
    (hput : ∀ u i v (hi : i < ops.size), (mk u).put (ops[i].dst) v = mk (fun k => if k = i then v else u k))
    (mono : ∀ i k v w w', k ≠ i → φ k v w → R i w w' → φ k v w')
    (hstep : ∀ i (hi : i < ops.size) u w, J w → (∀ e ∈ ops[i].after, Region.binds .any e = true → φ e.on (u e.on) w) →
      (∀ e ∈ ops[i].after, ∀ e' ∈ ops[i].after, Region.binds .any e = true → Region.binds .any e' = true → e.on ≠ e'.on → ψ e.on e'.on (u e.on) (u e'.on)) →
      (ops[i]).wp P (mk u) w (fun a' w' => ∃ v, a' = (mk u).put ops[i].dst v ∧ φ i v w' ∧ R i w w' ∧ J w' ∧ ∀ j x, j ≠ i → φ j x w → ψ i j v x ∧ ψ j i x v) Q)
    (hend : ∀ u w, J w → (∀ i, i < ops.size → φ i (u i) w) → (∀ i j, i < ops.size → j < ops.size → i ≠ j → ψ i j (u i) (u j)) → Q .normal (mk u) w)
    (u0 : Nat → Value) {w : World} (hJ : J w.drew) : (Code.region id ops true).wp P Q (mk u0) w := by
  have hguard : ∀ i (hi : i < ops.size), ops[i].guard = none := fun i hi => by
    have := List.all_eq_true.1 hg ops[i] (by simp)
    simpa using this
  have hon : ∀ i (hi : i < ops.size) e, e ∈ ops[i].after → Region.binds .any e = true → e.on < i := fun i hi e he hb => by
    have := List.all_eq_true.1 ho i (List.mem_range.2 hi)
    rw [Array.getElem?_eq_getElem hi] at this
    have := List.all_eq_true.1 this e (by simpa using he)
    simpa [hb] using this
  refine wp_region_any hm ?_
  refine wpAny_inv (fun l a w => J w ∧ ∃ u, a = mk u ∧ (∀ i, i < ops.size → l.getD i false = true → φ i (u i) w) ∧
      ∀ i j, i < ops.size → j < ops.size → l.getD i false = true → l.getD j false = true → i ≠ j → ψ i j (u i) (u j)) ?_ ?_ ops.size _ _ _ (by simp) ?_ ⟨hJ, u0, rfl, fun i hi h => ?_, fun i j hi hj h => ?_⟩
  · rintro l a w i hl ⟨hJ, u, rfl, hu, hp⟩ hi
    obtain ⟨h1, h2, h3⟩ := ready_mem hi
    have hoi : ops[i]? = some ops[i] := Array.getElem?_eq_getElem h1
    have h4 := hstep i h1 u w hJ (fun e he hb => hu e.on (Nat.lt_trans (hon i h1 e he hb) h1) (h3 _ hoi e he hb))
      (fun e he e' he' hb hb' hne => hp _ _ (Nat.lt_trans (hon i h1 e he hb) h1) (Nat.lt_trans (hon i h1 e' he' hb') h1) (h3 _ hoi e he hb) (h3 _ hoi e' he' hb') hne)
    unfold wpOp
    simp only [hoi]
    rw [if_pos (by simp [Region.wanted, hguard i h1])]
    refine Or.inl (Oper.wp_mono ?_ h4)
    rintro a' w' ⟨v, rfl, hv, hb, hJ', hps⟩
    have hlk' : ∀ k, k < ops.size → k ≠ i → (l.setIfInBounds i true).getD k false = true → l.getD k false = true := fun k hk e h => by
      have : (l.setIfInBounds i true).getD k false = l.getD k false := by
        simp [Array.getD, hl, hk, Array.getElem_setIfInBounds, Ne.symm e]
      rw [← this]; exact h
    refine ⟨hJ', _, hput u i v h1, fun k hk hlk => ?_, fun k j hk hj hlk hlj hne => ?_⟩
    · by_cases e : k = i
      · subst e; simpa using hv
      · simp only [e, if_false]
        exact mono i k _ w w' e (hu k hk (hlk' k hk e hlk)) hb
    · by_cases e : k = i
      · subst e
        have e' : j ≠ k := Ne.symm hne
        simp only [if_true, e', if_false]
        exact (hps j (u j) e' (hu j hj (hlk' j hj e' hlj))).1
      · by_cases e' : j = i
        · subst e'
          simp only [if_true, e, if_false]
          exact (hps k (u k) e (hu k hk (hlk' k hk e hlk))).2
        · simp only [e, e', if_false]
          exact hp k j hk hj (hlk' k hk e hlk) (hlk' j hj e' hlj) hne
  · rintro l a w hl ⟨hJ, u, rfl, hu, hp⟩ hr
    -- everything is listed: the least one that is not would be ready
    have key : ∀ k, k < ops.size → l.getD k false = true := by
      intro k
      induction k using Nat.strongRecOn with
      | ind k ih =>
        intro hk
        rcases Bool.eq_false_or_eq_true (l.getD k false) with h | h
        · exact h
        · exfalso
          have hm : k ∈ Region.ready .any ops l := by
            simp only [Region.ready, List.mem_filter, List.mem_range, Bool.and_eq_true, Bool.not_eq_true']
            refine ⟨hk, ?_, ?_⟩
            · have : l.getD k true = l.getD k false := by simp [Array.getD, hl, hk]
              rw [this, h]
            · rw [Array.getElem?_eq_getElem hk]
              simp only [Option.map_some, Option.getD_some, Array.all_eq_true', Bool.or_eq_true, Bool.not_eq_true']
              intro e he
              rcases Bool.eq_false_or_eq_true (Region.binds .any e) with hb | hb
              · exact Or.inr (ih e.on (hon k hk e he hb) (Nat.lt_trans (hon k hk e he hb) hk))
              · exact Or.inl hb
          rw [hr] at hm
          cases hm
    exact hend u w hJ (fun i hi => hu i hi (key i hi)) (fun i j hi hj hne => hp i j hi hj (key i hi) (key j hj) hne)
  · refine Nat.le_trans List.countP_le_length (by simp)
  · simp [Array.getD, hi] at h
  · simp [Array.getD, hi] at h

/-- An operation that runs to a value; one that stores; one that calls. -/
theorem step_of_run {o : Oper} {a : Act} {w w' : World} {v : Value} {K : Act → World → Prop} (h : (execOp a.eval o).run P w = .ok (.value v) w') (hK : K (a.put o.dst v) w') : o.wp P a w K Q := by
  unfold Oper.wp; rw [h]; exact hK
theorem step_of_skip {o : Oper} {a : Act} {w w' : World} {K : Act → World → Prop} (h : (execOp a.eval o).run P w = .ok .skip w') (hK : K (a.put o.dst undef) w') : o.wp P a w K Q := by
  unfold Oper.wp; rw [h]; exact hK
theorem step_of_call {o : Oper} {a : Act} {w w' : World} {f : FuncId} {args : Array Value} {K : Act → World → Prop} (h : (execOp a.eval o).run P w = .ok (.enter f args) w')
    (hc : Calls P f args w' fun e w'' => ∃ v, e = .returned v ∧ K (a.put o.dst v) w'') : o.wp P a w K Q := by
  unfold Oper.wp; rw [h]
  refine hc.mono ?_
  rintro e w'' ⟨v, rfl, hk⟩
  exact hk
end
end Go.Proofs.Ybulkcawy
