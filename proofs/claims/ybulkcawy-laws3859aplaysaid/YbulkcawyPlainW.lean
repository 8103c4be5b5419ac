/-
  A PLAIN REGION WITH GUARDS over a frame that is a variable, the world told step by step.
-/
import Derived.Test.YbulkcawyPlain
namespace Go.Proofs.Ybulkcawy
open Go.RowKit
set_option linter.unusedSimpArgs false
set_option linter.unusedVariables false
section
variable {P : Program} {ops : Array Oper} {Q : Exit → Act → World → Prop}

theorem region_plainW {id : Nat} (T : Array Value) (N : Nat) (hT : T.size = N) (vals : List Value) (St : Nat → World → Prop) (w : World) (h0 : St 0 w)
    (hd : ((List.range ops.size).all fun i => (List.range ops.size).all fun j => i == j || ((ops[i]?).bind Oper.dst).isNone || ((ops[i]?).bind Oper.dst) != ((ops[j]?).bind Oper.dst)) = true)
    (hN : (ops.toList.all fun o => match o.dst with | some d => decide (d < N) | none => true) = true)
    (hstep : ∀ i (hi : i < ops.size) U w1, St i w1 → U.size = N → Kept ops T U → (∀ k, k < i → slotv ops U k = vals.getD k undef) →
      (Region.wanted ops[i] (yielded ops U) = true ∧ (ops[i]).wp P ⟨U, []⟩ w1 (fun a' w' => St (i + 1) w' ∧ ∃ v, a' = (Act.mk U []).put ops[i].dst v ∧ (ops[i].dst = none → v = undef) ∧ vals.getD i undef = v) Q) ∨
      (Region.wanted ops[i] (yielded ops U) = false ∧ vals.getD i undef = undef ∧ St (i + 1) w1))
    (hend : ∀ U w1, St ops.size w1 → U.size = N → Kept ops T U → (∀ k, k < ops.size → slotv ops U k = vals.getD k undef) → Q .normal ⟨U, []⟩ w1) : (Code.region id ops false).wp P Q ⟨T, []⟩ w := by
  refine wp_region_list ?_
  have key : ∀ (m i : Nat) (U : Array Value) (w : World), St i w → i + m = ops.size → U.size = N → Kept ops T U → (∀ k, k < i → slotv ops U k = vals.getD k undef) → wpList P ops Q (ops.toList.drop i) ⟨U, []⟩ w := by
    intro m
    induction m with
    | zero =>
      intro i U w hSt him hU hK hv
      have e : ops.toList.drop i = [] := by simp; omega
      rw [e]
      have : i = ops.size := by omega
      subst this
      exact hend U w hSt hU hK (fun k hk => hv k (by omega))
    | succ m ih =>
      intro i U w hSt him hU hK hv
      have hi : i < ops.size := by omega
      have hoi : ops[i]? = some ops[i] := Array.getElem?_eq_getElem hi
      have e : ops.toList.drop i = ops[i] :: ops.toList.drop (i + 1) := by
        rw [List.drop_eq_getElem_cons (by simpa using hi)]
        simp
      have next : ∀ v w, St (i + 1) w → (ops[i].dst = none → v = undef) → vals.getD i undef = v → wpList P ops Q (ops.toList.drop (i + 1)) ((Act.mk U []).put ops[i].dst v) w := by
        intro v w hSt' hv0 hvi
        have hsl := slotv_put hd hN U i hi v hU hv0
        have ea : (Act.mk U []).put ops[i].dst v = ⟨((Act.mk U []).put ops[i].dst v).tmps, []⟩ := by cases ops[i].dst <;> rfl
        rw [ea]
        refine ih (i + 1) _ w hSt' (by omega) ?_ ?_ ?_
        · rw [← hU]; cases ops[i].dst <;> simp [Act.put]
        · intro j hj
          rw [← hK j hj]
          cases hdi : ops[i].dst with
          | none => rfl
          | some d =>
            simp only [Act.put]
            rw [Array.getElem?_setIfInBounds_ne]
            rintro rfl
            have := List.all_eq_true.1 hj ops[i] (by simp)
            rw [hdi] at this
            simp at this
        · intro k hk
          rw [hsl]
          unfold updv
          by_cases e2 : k = i
          · subst e2; rw [if_pos rfl]; exact hvi.symm
          · simp only [e2, if_false]
            exact hv k (by omega)
      rw [e]
      unfold wpList
      rcases hstep i hi U w hSt hU hK hv with ⟨h1, h2⟩ | ⟨h1, h2, h3⟩
      · rw [if_pos h1]
        refine Or.inl (Oper.wp_mono ?_ h2)
        rintro a' w' ⟨hs, v, rfl, hv0, hvi⟩
        exact next v w' hs hv0 hvi
      · rw [if_neg (by simp [h1])]
        exact next undef w h3 (fun _ => rfl) h2
  have := key ops.size 0 T w h0 (by simp) hT (fun _ _ => rfl) (fun k hk => by omega)
  simpa using this
end
end Go.Proofs.Ybulkcawy
