/-
  A PLAIN REGION WITH GUARDS THAT ONLY READS, over a frame that is a variable: each operation's value is said; those that a guard passes over leave 'undef'.
-/
import Derived.Test.YbulkcawyVar
namespace Go.Proofs.Ybulkcawy
open Go.RowKit
set_option linter.unusedSimpArgs false
set_option linter.unusedVariables false

theorem want_none {ops : Array Oper} {U : Array Value} {o : Oper} (hg : o.guard = none) : Region.wanted o (yielded ops U) = true := by
  simp [Region.wanted, hg]
theorem want_of {ops : Array Oper} {U : Array Value} {o : Oper} {j d : Nat} {b : Bool} (hg : o.guard = some (j, b)) (hd : (ops[j]?).bind Oper.dst = some d) (hU : d < U.size) (hv : U[d]?.getD undef = .bool b) : Region.wanted o (yielded ops U) = true := by
  have hd' : ((ops[j]?).bind (fun x => x.dst)) = some d := hd
  have h2 := at_of hU hv
  simp [Region.wanted, hg, yielded, hd', Array.getElem?_eq_getElem hU, h2]
theorem skip_of {ops : Array Oper} {U : Array Value} {o : Oper} {j d : Nat} {b : Bool} (hg : o.guard = some (j, b)) (hd : (ops[j]?).bind Oper.dst = some d) (hU : d < U.size) (hv : U[d]?.getD undef = .bool (!b)) : Region.wanted o (yielded ops U) = false := by
  have hd' : ((ops[j]?).bind (fun x => x.dst)) = some d := hd
  have h2 := at_of hU hv
  simp [Region.wanted, hg, yielded, hd', Array.getElem?_eq_getElem hU, h2]
theorem skip_undef {ops : Array Oper} {U : Array Value} {o : Oper} {j d : Nat} {b : Bool} (hg : o.guard = some (j, b)) (hd : (ops[j]?).bind Oper.dst = some d) (hU : d < U.size) (hv : U[d]?.getD undef = undef) : Region.wanted o (yielded ops U) = false := by
  have hd' : ((ops[j]?).bind (fun x => x.dst)) = some d := hd
  have h2 := at_of hU hv
  simp [Region.wanted, hg, yielded, hd', Array.getElem?_eq_getElem hU, h2, undef]

section
variable {P : Program} {ops : Array Oper} {Q : Exit → Act → World → Prop}

theorem slotv_put {N : Nat} (hd : ((List.range ops.size).all fun i => (List.range ops.size).all fun j => i == j || ((ops[i]?).bind Oper.dst).isNone || ((ops[i]?).bind Oper.dst) != ((ops[j]?).bind Oper.dst)) = true)
    (hN : (ops.toList.all fun o => match o.dst with | some d => decide (d < N) | none => true) = true) (U : Array Value) (i : Nat) (hi : i < ops.size) (v : Value) (hU : U.size = N) (hv : ops[i].dst = none → v = undef) :
    slotv ops ((Act.mk U []).put ops[i].dst v).tmps = updv (slotv ops U) i v := by
  have hdd : ∀ i j d, i < ops.size → j < ops.size → (ops[i]?).bind Oper.dst = some d → (ops[j]?).bind Oper.dst = some d → i = j := fun i j d hi hj h1 h2 => by
    have := List.all_eq_true.1 (List.all_eq_true.1 hd i (List.mem_range.2 hi)) j (List.mem_range.2 hj)
    rw [h1, h2] at this
    simpa using this
  have hNN : ∀ i (hi : i < ops.size) d, ops[i].dst = some d → d < N := fun i hi d h => by
    have := List.all_eq_true.1 hN ops[i] (by simp)
    rw [h] at this
    simpa using this
  funext k
  unfold slotv updv
  have hoi : ops[i]? = some ops[i] := Array.getElem?_eq_getElem hi
  cases hdi : ops[i].dst with
  | none =>
    simp only [Act.put]
    by_cases e : k = i
    · subst e
      simp [hoi, hdi, hv hdi]
    · simp [e]
  | some d =>
    simp only [Act.put]
    by_cases e : k = i
    · subst e
      have := hNN k hi d hdi
      simp [hoi, hdi, Array.getD, hU, this]
    · simp only [e, if_false]
      cases hdk : (ops[k]?).bind Oper.dst with
      | none => rfl
      | some d' =>
        have hk : k < ops.size := by
          rcases Nat.lt_or_ge k ops.size with h | h
          · exact h
          · simp [Array.getElem?_eq_none h] at hdk
        have hne : d ≠ d' := fun h => e (hdd k i d' hk hi hdk (by rw [hoi]; simp [hdi, h]))
        simp only [Array.getD_eq_getD_getElem?]
        rw [Array.getElem?_setIfInBounds_ne hne]

theorem region_plain {id : Nat} (T : Array Value) (N : Nat) (hT : T.size = N) (vals : List Value) (w : World)
    (hd : ((List.range ops.size).all fun i => (List.range ops.size).all fun j => i == j || ((ops[i]?).bind Oper.dst).isNone || ((ops[i]?).bind Oper.dst) != ((ops[j]?).bind Oper.dst)) = true)
    (hN : (ops.toList.all fun o => match o.dst with | some d => decide (d < N) | none => true) = true)
    (hstep : ∀ i (hi : i < ops.size) U, U.size = N → Kept ops T U → (∀ k, k < i → slotv ops U k = vals.getD k undef) →
      (Region.wanted ops[i] (yielded ops U) = true ∧ (ops[i]).wp P ⟨U, []⟩ w (fun a' w' => w' = w ∧ ∃ v, a' = (Act.mk U []).put ops[i].dst v ∧ (ops[i].dst = none → v = undef) ∧ vals.getD i undef = v) Q) ∨
      (Region.wanted ops[i] (yielded ops U) = false ∧ vals.getD i undef = undef))
    (hend : ∀ U, U.size = N → Kept ops T U → (∀ k, k < ops.size → slotv ops U k = vals.getD k undef) → Q .normal ⟨U, []⟩ w) : (Code.region id ops false).wp P Q ⟨T, []⟩ w := by
  refine wp_region_list ?_
  have key : ∀ (m i : Nat) (U : Array Value), i + m = ops.size → U.size = N → Kept ops T U → (∀ k, k < i → slotv ops U k = vals.getD k undef) → wpList P ops Q (ops.toList.drop i) ⟨U, []⟩ w := by
    intro m
    induction m with
    | zero =>
      intro i U him hU hK hv
      have e : ops.toList.drop i = [] := by simp; omega
      rw [e]
      exact hend U hU hK (fun k hk => hv k (by omega))
    | succ m ih =>
      intro i U him hU hK hv
      have hi : i < ops.size := by omega
      have hoi : ops[i]? = some ops[i] := Array.getElem?_eq_getElem hi
      have e : ops.toList.drop i = ops[i] :: ops.toList.drop (i + 1) := by
        rw [List.drop_eq_getElem_cons (by simpa using hi)]
        simp
      have next : ∀ v, (ops[i].dst = none → v = undef) → vals.getD i undef = v → wpList P ops Q (ops.toList.drop (i + 1)) ((Act.mk U []).put ops[i].dst v) w := by
        intro v hv0 hvi
        have hsl := slotv_put hd hN U i hi v hU hv0
        have ea : (Act.mk U []).put ops[i].dst v = ⟨((Act.mk U []).put ops[i].dst v).tmps, []⟩ := by cases ops[i].dst <;> rfl
        rw [ea]
        refine ih (i + 1) _ (by omega) ?_ ?_ ?_
        · rw [← hU]; cases ops[i].dst <;> simp [Act.put]
        · intro j hj
          rw [← hK j hj]
          cases hdi : ops[i].dst with
          | none => rfl
          | some d =>
            simp only [Act.put]
            rw [Array.getElem?_setIfInBounds_ne]
            rintro rfl
            have := List.all_eq_true.1 hj ops[i] (by simp)
            rw [hdi] at this
            simp at this
        · intro k hk
          rw [hsl]
          unfold updv
          by_cases e2 : k = i
          · subst e2; rw [if_pos rfl]; exact hvi.symm
          · simp only [e2, if_false]
            exact hv k (by omega)
      rw [e]
      unfold wpList
      rcases hstep i hi U hU hK hv with ⟨h1, h2⟩ | ⟨h1, h2⟩
      · rw [if_pos h1]
        refine Or.inl (Oper.wp_mono ?_ h2)
        rintro a' w' ⟨rfl, v, rfl, hv0, hvi⟩
        exact next v hv0 hvi
      · rw [if_neg (by simp [h1])]
        exact next undef (fun _ => rfl) h2
  have := key ops.size 0 T (by simp) hT (fun _ _ => rfl) (fun k hk => by omega)
  simpa using this
end
end Go.Proofs.Ybulkcawy
