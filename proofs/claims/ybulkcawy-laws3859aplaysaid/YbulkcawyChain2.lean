/-
  The chain law, told of the slots that the acts write.
-/
import Derived.Test.YbulkcawyF3E
namespace Go.Proofs.Ybulkcawy
open Go.RowKit
set_option linter.unusedSimpArgs false
set_option linter.unusedVariables false

section
variable {P : Program} {ops : Array Oper} {Q : Exit → Act → World → Prop}

/-- As 'region_chain'; and a slot that an act writes is as it was while the act has not been carried out. -/
theorem region_chain2 {id : Nat} (hm : P.follows .mixedOrders = true) (T : Array Value) (N : Nat) (hT : T.size = N) (vals : List (Option Value)) (acts : List Nat) (St : List Value → World → Prop)
    (hg : (ops.toList.all fun o => o.guard.isNone) = true)
    (ho : ((List.range ops.size).all fun i => match ops[i]? with | some o => o.after.toList.all fun e => !Region.binds .any e || decide (e.on < i) | none => true) = true)
    (hd : ((List.range ops.size).all fun i => (List.range ops.size).all fun j => i == j || ((ops[i]?).bind Oper.dst).isNone || ((ops[i]?).bind Oper.dst) != ((ops[j]?).bind Oper.dst)) = true)
    (hN : (ops.toList.all fun o => match o.dst with | some d => decide (d < N) | none => true) = true)
    (hsort : ((List.range acts.length).all fun j => decide (acts.getD j 0 < ops.size) && (List.range acts.length).all fun k => k == j || acts.getD k 0 != acts.getD j 0) = true)
    (hchain : ((List.range acts.length).all fun j => j == 0 || (descL ops (acts.getD (j - 1) 0)).contains (acts.getD j 0)) = true)
    (hpure : ∀ i (hi : i < ops.size) U vs w1, i ∉ acts → U.size = N → Kept ops T U → St vs w1 → (∀ j, vs.length ≤ j → j < acts.length → slotv ops U (acts.getD j 0) = slotv ops T (acts.getD j 0)) → (∀ j, j < acts.length → acts.getD j 0 ∈ descL ops i → vs.length ≤ j) →
      (∀ e ∈ ops[i].after, Region.binds .any e = true → e.on ∉ acts → vals[e.on]? = some (some (slotv ops U e.on))) →
      (ops[i]).wp P ⟨U, []⟩ w1 (fun a' w' => w' = w1 ∧ ∃ v, a' = (Act.mk U []).put ops[i].dst v ∧ (ops[i].dst = none → v = undef) ∧ vals[i]? = some (some v)) Q)
    (hact : ∀ j (hj : j < acts.length) (hi : acts.getD j 0 < ops.size) U vs w1, vs.length = j → U.size = N → Kept ops T U → St vs w1 →
      (∀ e ∈ ops[acts.getD j 0].after, Region.binds .any e = true → e.on ∉ acts → vals[e.on]? = some (some (slotv ops U e.on))) → (∀ k, k < j → slotv ops U (acts.getD k 0) = vs.getD k undef) →
      (ops[acts.getD j 0]).wp P ⟨U, []⟩ w1 (fun a' w' => ∃ v, a' = (Act.mk U []).put ops[acts.getD j 0].dst v ∧ (ops[acts.getD j 0].dst = none → v = undef) ∧ St (vs ++ [v]) w') Q)
    (hend : ∀ U vs w1, U.size = N → Kept ops T U → vs.length = acts.length → St vs w1 → (∀ k, k < acts.length → slotv ops U (acts.getD k 0) = vs.getD k undef) → (∀ i, i < ops.size → i ∉ acts → vals[i]? = some (some (slotv ops U i))) → Q .normal ⟨U, []⟩ w1)
    {w : World} (h0 : St [] w.drew) : (Code.region id ops true).wp P Q ⟨T, []⟩ w := by
  have hinj : ∀ j k, j < acts.length → k < acts.length → acts.getD k 0 = acts.getD j 0 → k = j := fun j k hj hk e => by
    have h1 := List.all_eq_true.1 hsort j (List.mem_range.2 hj)
    rw [Bool.and_eq_true] at h1
    have h2 := List.all_eq_true.1 h1.2 k (List.mem_range.2 hk)
    rw [e] at h2
    simpa using h2
  have hlt : ∀ j, j < acts.length → acts.getD j 0 < ops.size := fun j hj => by
    have h1 := List.all_eq_true.1 hsort j (List.mem_range.2 hj)
    rw [Bool.and_eq_true] at h1
    exact of_decide_eq_true h1.1
  have hmem : ∀ i, i ∈ acts → ∃ j, j < acts.length ∧ acts.getD j 0 = i := fun i hi => by
    obtain ⟨j, hj, e⟩ := List.getElem_of_mem hi
    exact ⟨j, hj, by simp [List.getD, hj, e]⟩
  have hmem' : ∀ j, j < acts.length → acts.getD j 0 ∈ acts := fun j hj => by
    simp [List.getD, hj]
  refine region_vars hm T N hT (fun i v _ => i ∉ acts → vals[i]? = some (some v))
    (fun l u w => ∃ vs : List Value, vs.length ≤ acts.length ∧ (∀ j, j < acts.length → l (acts.getD j 0) = decide (j < vs.length)) ∧ (∀ k, k < vs.length → u (acts.getD k 0) = vs.getD k undef) ∧ St vs w ∧ ∀ j, vs.length ≤ j → j < acts.length → u (acts.getD j 0) = slotv ops T (acts.getD j 0)) (fun _ _ _ => True) hg ho hd hN (fun _ _ _ _ _ _ h _ => h) ?_ ?_ ?_
  · rintro i hi l U w1 hli hcl ⟨vs, hvl, hvs, hvu, hSt, hold⟩ hU hK hdep
    by_cases hia : i ∈ acts
    · obtain ⟨j, hj, rfl⟩ := hmem i hia
      have hj' : vs.length ≤ j := by
        rcases Nat.lt_or_ge j vs.length with h | h
        · have := hvs j hj
          rw [hli] at this
          simp [h] at this
        · exact h
      have hlen : vs.length = j := by
        rcases Nat.eq_zero_or_pos j with h0 | h0
        · omega
        · have hc := List.all_eq_true.1 hchain j (List.mem_range.2 hj)
          simp only [Bool.or_eq_true, beq_iff_eq, List.contains_iff_mem] at hc
          rcases hc with hc | hc
          · omega
          · have hD := descL_sound _ hc
            have hprev : l (acts.getD (j - 1) 0) = true := by
              rcases Bool.eq_false_or_eq_true (l (acts.getD (j - 1) 0)) with h | h
              · exact h
              · exfalso
                generalize hk : acts.getD j 0 = k at hD
                cases hD with
                | refl =>
                  have := hinj (j - 1) j (by omega) hj hk
                  omega
                | step ho' he hb hD' =>
                  subst hk
                  have e : ops[acts.getD j 0]? = some ops[acts.getD j 0] := Array.getElem?_eq_getElem hi
                  rw [e] at ho'
                  injection ho' with ho'
                  subst ho'
                  have := (hdep _ he hb).1
                  rw [hD'.unlisted hcl h] at this
                  cases this
            have := hvs (j - 1) (by omega)
            rw [hprev] at this
            have := of_decide_eq_true this.symm
            omega
      subst hlen
      refine Oper.wp_mono ?_ (hact vs.length hj hi U vs w1 rfl hU hK hSt (fun e he hb hn => (hdep e he hb).2 hn) hvu)
      rintro a' w' ⟨v, rfl, hv, hSt'⟩
      refine ⟨v, rfl, hv, fun h => absurd hia h, trivial, vs ++ [v], by simp; omega, fun k hk => ?_, fun k hk => ?_, hSt', fun k hk1 hk2 => ?_⟩
      · unfold upd
        by_cases e : acts.getD k 0 = acts.getD vs.length 0
        · have := hinj _ _ hj hk e
          subst this
          simp
        · rw [if_neg e, hvs k hk]
          have hne : k ≠ vs.length := fun h => e (by rw [h])
          simp only [List.length_append, List.length_cons, List.length_nil]
          by_cases h : k < vs.length
          · simp [h]; omega
          · simp [h]; omega
      · unfold updv
        simp only [List.length_append, List.length_cons, List.length_nil] at hk
        by_cases e : k = vs.length
        · subst e
          simp
        · have hne : acts.getD k 0 ≠ acts.getD vs.length 0 := fun h => e (hinj _ _ hj (by omega) h)
          rw [if_neg hne, hvu k (by omega)]
          simp [List.getD, List.getElem?_append_left (show k < vs.length by omega)]
      · unfold updv
        simp only [List.length_append, List.length_cons, List.length_nil] at hk1
        have hne : acts.getD k 0 ≠ acts.getD vs.length 0 := fun h => by have := hinj _ _ hj hk2 h; omega
        rw [if_neg hne]
        exact hold k (by omega) hk2
    · refine Oper.wp_mono ?_ (hpure i hi U vs w1 hia hU hK hSt hold (fun j hj hdj => ?_) (fun e he hb hn => (hdep e he hb).2 hn))
      · rintro a' w' ⟨rfl, v, rfl, hv, hx⟩
        refine ⟨v, rfl, hv, fun _ => hx, trivial, vs, hvl, fun j hj => ?_, fun k hk => ?_, hSt, fun k hk1 hk2 => ?_⟩
        · unfold upd
          rw [if_neg (fun h => hia (by rw [← h]; exact hmem' j hj))]
          exact hvs j hj
        · unfold updv
          rw [if_neg (fun h => hia (by rw [← h]; exact hmem' k (by omega)))]
          exact hvu k hk
        · unfold updv
          rw [if_neg (fun h => hia (by rw [← h]; exact hmem' k hk2))]
          exact hold k hk1 hk2
      · have := (descL_sound _ hdj).unlisted hcl hli
        rw [hvs j hj] at this
        have := of_decide_eq_false this
        omega
  · rintro U w1 hU hK ⟨vs, hvl, hvs, hvu, hSt, _⟩ hall
    have hlen : vs.length = acts.length := by
      rcases Nat.lt_or_ge vs.length acts.length with h | h
      · have h1 := hvs vs.length h
        have h2 := hlt vs.length h
        have h3 : decide (acts.getD vs.length 0 < ops.size) = decide (vs.length < vs.length) := h1
        rw [decide_eq_true h2] at h3
        simp at h3
      · omega
    exact hend U vs w1 hU hK hlen hSt (fun k hk => hvu k (by omega)) hall
  · exact ⟨[], by simp, fun j hj => by simp, fun k hk => by simp at hk, h0, fun _ _ _ => rfl⟩
end
end Go.Proofs.Ybulkcawy
