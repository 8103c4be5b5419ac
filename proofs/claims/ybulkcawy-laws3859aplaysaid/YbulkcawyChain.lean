/-
  A REGION THAT DRAWS ITS ORDER, WHOSE ACTS (operations that write, make or call, and what waits for them) STAND IN A CHAIN; all else reads, and reads the same whenever it comes.
-/
import Derived.Test.YbulkcawyVar
namespace Go.Proofs.Ybulkcawy
open Go.RowKit
set_option linter.unusedSimpArgs false
set_option linter.unusedVariables false

/-- k waits for i (or is i). -/
inductive Desc (ops : Array Oper) (i : Nat) : Nat → Prop where
  | refl : Desc ops i i
  | step {k : Nat} {o : Oper} {e : Edge} (ho : ops[k]? = some o) (he : e ∈ o.after) (hb : Region.binds .any e = true) (h : Desc ops i e.on) : Desc ops i k

def descC (ops : Array Oper) (i : Nat) (acc : List Nat) (k : Nat) : Bool :=
  k == i || (match ops[k]? with | some o => o.after.toList.any fun e => Region.binds .any e && acc.contains e.on | none => false)

def descL (ops : Array Oper) (i : Nat) : List Nat :=
  (List.range ops.size).foldl (fun acc k => bif descC ops i acc k then k :: acc else acc) []

theorem descC_sound {ops : Array Oper} {i : Nat} {acc : List Nat} (h : ∀ k ∈ acc, Desc ops i k) (k : Nat) (hc : descC ops i acc k = true) : Desc ops i k := by
  unfold descC at hc
  simp only [Bool.or_eq_true, beq_iff_eq] at hc
  rcases hc with rfl | hc
  · exact .refl
  · cases ho : ops[k]? with
    | none => rw [ho] at hc; cases hc
    | some o =>
      rw [ho] at hc
      simp only [List.any_eq_true, Bool.and_eq_true, List.contains_iff_mem] at hc
      obtain ⟨e, he, hb, hm⟩ := hc
      exact .step ho (by simpa using he) hb (h _ hm)

theorem descL_sound {ops : Array Oper} {i : Nat} : ∀ k ∈ descL ops i, Desc ops i k := by
  unfold descL
  have key : ∀ (ks acc : List Nat), (∀ k ∈ acc, Desc ops i k) → ∀ k ∈ ks.foldl (fun acc k => bif descC ops i acc k then k :: acc else acc) acc, Desc ops i k := by
    intro ks
    induction ks with
    | nil => exact fun acc h => h
    | cons x ks ih =>
      intro acc h
      refine ih _ ?_
      cases hc : descC ops i acc x with
      | true =>
        intro k hk
        simp only [hc, cond_true] at hk
        rcases List.mem_cons.1 hk with rfl | hk
        · exact descC_sound h _ hc
        · exact h k hk
      | false =>
        intro k hk
        simp only [hc, cond_false] at hk
        exact h k hk
  exact key _ [] (fun k hk => by cases hk)

theorem Desc.unlisted {ops : Array Oper} {i k : Nat} {l : Nat → Bool} (h : Desc ops i k) (hcl : ClosedL ops l) (hi : l i = false) : l k = false := by
  induction h with
  | refl => exact hi
  | step ho he hb _ ih => exact hcl.not ih ho he hb rfl

theorem chain_of {vals : List (Option Value)} {k : Nat} {x y : Value} (h : vals[k]? = some (some x)) (hy : vals[k]? = some (some y)) : x = y := by
  rw [h] at hy
  exact Option.some.inj (Option.some.inj hy)

section
variable {P : Program} {ops : Array Oper} {Q : Exit → Act → World → Prop}

theorem region_chain {id : Nat} (hm : P.follows .mixedOrders = true) (T : Array Value) (N : Nat) (hT : T.size = N) (vals : List (Option Value)) (acts : List Nat) (St : List Value → World → Prop)
    (hg : (ops.toList.all fun o => o.guard.isNone) = true)
    (ho : ((List.range ops.size).all fun i => match ops[i]? with | some o => o.after.toList.all fun e => !Region.binds .any e || decide (e.on < i) | none => true) = true)
    (hd : ((List.range ops.size).all fun i => (List.range ops.size).all fun j => i == j || ((ops[i]?).bind Oper.dst).isNone || ((ops[i]?).bind Oper.dst) != ((ops[j]?).bind Oper.dst)) = true)
    (hN : (ops.toList.all fun o => match o.dst with | some d => decide (d < N) | none => true) = true)
    (hsort : ((List.range acts.length).all fun j => decide (acts.getD j 0 < ops.size) && (List.range acts.length).all fun k => k == j || acts.getD k 0 != acts.getD j 0) = true)
    (hchain : ((List.range acts.length).all fun j => j == 0 || (descL ops (acts.getD (j - 1) 0)).contains (acts.getD j 0)) = true)
    (hpure : ∀ i (hi : i < ops.size) U vs w1, i ∉ acts → U.size = N → Kept ops T U → St vs w1 → (∀ j, j < acts.length → acts.getD j 0 ∈ descL ops i → vs.length ≤ j) →
      (∀ e ∈ ops[i].after, Region.binds .any e = true → e.on ∉ acts → vals[e.on]? = some (some (slotv ops U e.on))) →
      (ops[i]).wp P ⟨U, []⟩ w1 (fun a' w' => w' = w1 ∧ ∃ v, a' = (Act.mk U []).put ops[i].dst v ∧ (ops[i].dst = none → v = undef) ∧ vals[i]? = some (some v)) Q)
    (hact : ∀ j (hj : j < acts.length) (hi : acts.getD j 0 < ops.size) U vs w1, vs.length = j → U.size = N → Kept ops T U → St vs w1 →
      (∀ e ∈ ops[acts.getD j 0].after, Region.binds .any e = true → e.on ∉ acts → vals[e.on]? = some (some (slotv ops U e.on))) → (∀ k, k < j → slotv ops U (acts.getD k 0) = vs.getD k undef) →
      (ops[acts.getD j 0]).wp P ⟨U, []⟩ w1 (fun a' w' => ∃ v, a' = (Act.mk U []).put ops[acts.getD j 0].dst v ∧ (ops[acts.getD j 0].dst = none → v = undef) ∧ St (vs ++ [v]) w') Q)
    (hend : ∀ U vs w1, U.size = N → Kept ops T U → vs.length = acts.length → St vs w1 → (∀ k, k < acts.length → slotv ops U (acts.getD k 0) = vs.getD k undef) → (∀ i, i < ops.size → i ∉ acts → vals[i]? = some (some (slotv ops U i))) → Q .normal ⟨U, []⟩ w1)
    {w : World} (h0 : St [] w.drew) : (Code.region id ops true).wp P Q ⟨T, []⟩ w := by
  have hinj : ∀ j k, j < acts.length → k < acts.length → acts.getD k 0 = acts.getD j 0 → k = j := fun j k hj hk e => by
    have h1 := List.all_eq_true.1 hsort j (List.mem_range.2 hj)
    rw [Bool.and_eq_true] at h1
    have h2 := List.all_eq_true.1 h1.2 k (List.mem_range.2 hk)
    rw [e] at h2
    simpa using h2
  have hlt : ∀ j, j < acts.length → acts.getD j 0 < ops.size := fun j hj => by
    have h1 := List.all_eq_true.1 hsort j (List.mem_range.2 hj)
    rw [Bool.and_eq_true] at h1
    exact of_decide_eq_true h1.1
  have hmem : ∀ i, i ∈ acts → ∃ j, j < acts.length ∧ acts.getD j 0 = i := fun i hi => by
    obtain ⟨j, hj, e⟩ := List.getElem_of_mem hi
    exact ⟨j, hj, by simp [List.getD, hj, e]⟩
  have hmem' : ∀ j, j < acts.length → acts.getD j 0 ∈ acts := fun j hj => by
    simp [List.getD, hj]
  refine region_vars hm T N hT (fun i v _ => i ∉ acts → vals[i]? = some (some v))
    (fun l u w => ∃ vs : List Value, vs.length ≤ acts.length ∧ (∀ j, j < acts.length → l (acts.getD j 0) = decide (j < vs.length)) ∧ (∀ k, k < vs.length → u (acts.getD k 0) = vs.getD k undef) ∧ St vs w) (fun _ _ _ => True) hg ho hd hN (fun _ _ _ _ _ _ h _ => h) ?_ ?_ ?_
  · rintro i hi l U w1 hli hcl ⟨vs, hvl, hvs, hvu, hSt⟩ hU hK hdep
    by_cases hia : i ∈ acts
    · obtain ⟨j, hj, rfl⟩ := hmem i hia
      have hj' : vs.length ≤ j := by
        rcases Nat.lt_or_ge j vs.length with h | h
        · have := hvs j hj
          rw [hli] at this
          simp [h] at this
        · exact h
      have hlen : vs.length = j := by
        rcases Nat.eq_zero_or_pos j with h0 | h0
        · omega
        · have hc := List.all_eq_true.1 hchain j (List.mem_range.2 hj)
          simp only [Bool.or_eq_true, beq_iff_eq, List.contains_iff_mem] at hc
          rcases hc with hc | hc
          · omega
          · have hD := descL_sound _ hc
            have hprev : l (acts.getD (j - 1) 0) = true := by
              rcases Bool.eq_false_or_eq_true (l (acts.getD (j - 1) 0)) with h | h
              · exact h
              · exfalso
                generalize hk : acts.getD j 0 = k at hD
                cases hD with
                | refl =>
                  have := hinj (j - 1) j (by omega) hj hk
                  omega
                | step ho' he hb hD' =>
                  subst hk
                  have e : ops[acts.getD j 0]? = some ops[acts.getD j 0] := Array.getElem?_eq_getElem hi
                  rw [e] at ho'
                  injection ho' with ho'
                  subst ho'
                  have := (hdep _ he hb).1
                  rw [hD'.unlisted hcl h] at this
                  cases this
            have := hvs (j - 1) (by omega)
            rw [hprev] at this
            have := of_decide_eq_true this.symm
            omega
      subst hlen
      refine Oper.wp_mono ?_ (hact vs.length hj hi U vs w1 rfl hU hK hSt (fun e he hb hn => (hdep e he hb).2 hn) hvu)
      rintro a' w' ⟨v, rfl, hv, hSt'⟩
      refine ⟨v, rfl, hv, fun h => absurd hia h, trivial, vs ++ [v], by simp; omega, fun k hk => ?_, fun k hk => ?_, hSt'⟩
      · unfold upd
        by_cases e : acts.getD k 0 = acts.getD vs.length 0
        · have := hinj _ _ hj hk e
          subst this
          simp
        · rw [if_neg e, hvs k hk]
          have hne : k ≠ vs.length := fun h => e (by rw [h])
          simp only [List.length_append, List.length_cons, List.length_nil]
          by_cases h : k < vs.length
          · simp [h]; omega
          · simp [h]; omega
      · unfold updv
        simp only [List.length_append, List.length_cons, List.length_nil] at hk
        by_cases e : k = vs.length
        · subst e
          simp
        · have hne : acts.getD k 0 ≠ acts.getD vs.length 0 := fun h => e (hinj _ _ hj (by omega) h)
          rw [if_neg hne, hvu k (by omega)]
          simp [List.getD, List.getElem?_append_left (show k < vs.length by omega)]
    · refine Oper.wp_mono ?_ (hpure i hi U vs w1 hia hU hK hSt (fun j hj hdj => ?_) (fun e he hb hn => (hdep e he hb).2 hn))
      · rintro a' w' ⟨rfl, v, rfl, hv, hx⟩
        refine ⟨v, rfl, hv, fun _ => hx, trivial, vs, hvl, fun j hj => ?_, fun k hk => ?_, hSt⟩
        · unfold upd
          rw [if_neg (fun h => hia (by rw [← h]; exact hmem' j hj))]
          exact hvs j hj
        · unfold updv
          rw [if_neg (fun h => hia (by rw [← h]; exact hmem' k (by omega)))]
          exact hvu k hk
      · have := (descL_sound _ hdj).unlisted hcl hli
        rw [hvs j hj] at this
        have := of_decide_eq_false this
        omega
  · rintro U w1 hU hK ⟨vs, hvl, hvs, hvu, hSt⟩ hall
    have hlen : vs.length = acts.length := by
      rcases Nat.lt_or_ge vs.length acts.length with h | h
      · have h1 := hvs vs.length h
        have h2 := hlt vs.length h
        have h3 : decide (acts.getD vs.length 0 < ops.size) = decide (vs.length < vs.length) := h1
        rw [decide_eq_true h2] at h3
        simp at h3
      · omega
    exact hend U vs w1 hU hK hlen hSt (fun k hk => hvu k (by omega)) hall
  · exact ⟨[], by simp, fun j hj => by simp, fun k hk => by simp at hk, h0⟩
end
end Go.Proofs.Ybulkcawy
