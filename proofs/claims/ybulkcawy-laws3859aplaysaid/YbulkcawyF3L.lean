/-
  LawS3859APlay: the kept cores are the wanted ones.
-/
import Derived.Test.YbulkcawyF3K
import Derived.Deep.Quiet
namespace Go.Proofs.Ybulkcawy
open Go.RowKit
set_option linter.unusedSimpArgs false
set_option linter.unusedVariables false
set_option maxRecDepth 100000
set_option maxHeartbeats 1000000

section
variable {P : Program} {ops : Array Oper} {Q : Exit → Act → World → Prop}
/-- A region that draws its order and only reads, its operations guarded or not. -/
theorem region_quietP {id : Nat} (hm : P.follows .mixedOrders = true) (hB : Region.lexB .any ops = true) (T : Array Value) (N : Nat) (hT : T.size = N) (vals : List Value) (w : World)
    (hd : ((List.range ops.size).all fun i => (List.range ops.size).all fun j => i == j || ((ops[i]?).bind Oper.dst).isNone || ((ops[i]?).bind Oper.dst) != ((ops[j]?).bind Oper.dst)) = true)
    (hN : (ops.toList.all fun o => match o.dst with | some d => decide (d < N) | none => true) = true)
    (hsome : (ops.toList.all fun o => o.dst.isSome) = true)
    (hstep : ∀ i (hi : i < ops.size) U, U.size = N → Kept ops T U → (∀ k, k < i → slotv ops U k = vals.getD k undef) →
      (Region.wanted ops[i] (yielded ops U) = true ∧ ∀ n, (execOp (Act.eval ⟨U, []⟩) ops[i]).run P (w.drewN n) = .ok (.value (vals.getD i undef)) (w.drewN n)) ∨
      (Region.wanted ops[i] (yielded ops U) = false ∧ vals.getD i undef = undef))
    (hend : ∀ U n, U.size = N → Kept ops T U → (∀ k, k < ops.size → slotv ops U k = vals.getD k undef) → Q .normal ⟨U, []⟩ (w.drewN n)) : (Code.region id ops true).wp P Q ⟨T, []⟩ w := by
  refine wp_region_quiet (C := fun w' => ∃ n, w' = w.drewN n) hm hB ⟨1, rfl⟩ ?_
  have key : ∀ (m i : Nat) (U : Array Value), i + m = ops.size → U.size = N → Kept ops T U → (∀ k, k < i → slotv ops U k = vals.getD k undef) → wpQuiet P ops (fun w' => ∃ n, w' = w.drewN n) (fun a' => ∀ w', (∃ n, w' = w.drewN n) → Q .normal a' w') (ops.toList.drop i) ⟨U, []⟩ := by
    intro m
    induction m with
    | zero =>
      intro i U him hU hK hv
      have e : ops.toList.drop i = [] := by simp; omega
      rw [e]
      rintro w' ⟨n, rfl⟩
      exact hend U n hU hK (fun k hk => hv k (by omega))
    | succ m ih =>
      intro i U him hU hK hv
      have hi : i < ops.size := by omega
      have hoi : ops[i]? = some ops[i] := Array.getElem?_eq_getElem hi
      have hds : ops[i].dst ≠ none := fun h => by
        have := List.all_eq_true.1 hsome ops[i] (by simp)
        rw [h] at this
        cases this
      have e : ops.toList.drop i = ops[i] :: ops.toList.drop (i + 1) := by
        rw [List.drop_eq_getElem_cons (by simpa using hi)]
        simp
      have next : wpQuiet P ops (fun w' => ∃ n, w' = w.drewN n) (fun a' => ∀ w', (∃ n, w' = w.drewN n) → Q .normal a' w') (ops.toList.drop (i + 1)) ((Act.mk U []).put ops[i].dst (vals.getD i undef)) := by
        have hsl := slotv_put hd hN U i hi (vals.getD i undef) hU (fun h => absurd h hds)
        have ea : (Act.mk U []).put ops[i].dst (vals.getD i undef) = ⟨((Act.mk U []).put ops[i].dst (vals.getD i undef)).tmps, []⟩ := by cases ops[i].dst <;> rfl
        rw [ea]
        refine ih (i + 1) _ (by omega) ?_ ?_ ?_
        · rw [← hU]; cases ops[i].dst <;> simp [Act.put]
        · intro j hj
          rw [← hK j hj]
          cases hdi : ops[i].dst with
          | none => rfl
          | some d =>
            simp only [Act.put]
            rw [Array.getElem?_setIfInBounds_ne]
            rintro rfl
            have := List.all_eq_true.1 hj ops[i] (by simp)
            rw [hdi] at this
            simp at this
        · intro k hk
          rw [hsl]
          unfold updv
          by_cases e2 : k = i
          · subst e2; rw [if_pos rfl]
          · simp only [e2, if_false]
            exact hv k (by omega)
      rw [e]
      unfold wpQuiet
      rcases hstep i hi U hU hK hv with ⟨h1, h2⟩ | ⟨h1, h2⟩
      · rw [if_pos h1]
        refine ⟨vals.getD i undef, ?_, next⟩
        rintro w' ⟨n, rfl⟩
        unfold Oper.quietAt
        rw [h2 n]
        exact ⟨rfl, rfl⟩
      · rw [if_neg (by simp [h1])]
        rw [h2] at next
        exact next
  have := key ops.size 0 T (by simp) hT (fun _ _ => rfl) (fun k hk => by omega)
  simpa using this
end

theorem aggNe40 (a t : Int) (s : ByteArray) (w : World) : (Go.binOp .neq 40 (.agg #[.int .i64 a, .int .i64 t, .string s]) (.agg #[.int .i64 a, .int .i64 t, .string s])).run Yba.prog w = .ok (.bool false) w := by
  simp [go_sem]

theorem sliceNe37 (w : World) : (Go.binOp .neq 37 (.slice none 0 0) (.slice none 0 0)).run Yba.prog w = .ok (.bool false) w := by kernel_rfl

theorem f3_38 (p : Inp) (hp : p.ok) (PL CA CO base : Nat) (g : Option Nat) (cm : Nat → Option (Nat × Nat)) (hcm : ∀ k, k < p.last * p.n → cm k = none ∨ ∃ t, 1 ≤ t ∧ t ≤ 100 ∧ cm k = some (k % p.n + 1, t)) (w : World) (hPL : w.cell? ⟨PL, 16, none⟩ = some (.slice (some ⟨CO, 0, none⟩) (p.last * p.n) (p.last * p.n))) (hPLw : PL < w.heap.size) (hco : Cores w base CO (p.last * p.n) g cm) (hca : Row w CA 78 36 (fun x => .int .i64 (caOf cm x))) (T : Array Value) (Q : Exit → Act → World → Prop) (hT0 : T.size = 735) (t23 : T[23]?.getD undef = .int .i64 p.n) (t24 : T[24]?.getD undef = .int .i64 p.last) (t51 : T[51]?.getD undef = .pointer (some ⟨PL, 0, none⟩)) (t59 : T[59]?.getD undef = .pointer (some ⟨CA, 0, none⟩)) (t79 : T[79]?.getD undef = .int .i64 0)
    (hQ : ∀ T' w', Keeps 81 734 [79, 80] T T' → Only (fun _ => False) w w' → Q .normal ⟨T', []⟩ w') : (blkOf Yba.f3 38).wp Yba.prog Q ⟨T, []⟩ w := by
  conv in (blkOf Yba.f3 38) => whnf
  refine wp_block ?_
  have HQ := hidP hQ
  have H0 := hidP (And.intro hPL (And.intro hco hca))
  have HCM := hidP hcm
  have hn6 := hp.n6
  have hn1 := hp.n1
  have hl5 := hp.l5
  have hNN : p.last * p.n ≤ 5 * 6 := Nat.mul_le_mul hl5 hn6
  obtain ⟨NN, hNe⟩ : ∃ NN, NN = p.last * p.n := ⟨_, rfl⟩
  have hNI : (p.last : Int) * (p.n : Int) = (NN : Int) := by rw [hNe]; push_cast; rfl
  rw [← hNe] at hNN
  have HNE := hidP hNe
  clear hQ hPL hco hca hcm hp hNe
  obtain ⟨I, hI⟩ : ∃ I : Nat → Array Value → World → Prop, I = (fun k T2 wr => ∃ k0, k0 + k = NN ∧ Keeps 81 734 [79, 80] T T2 ∧ T2[79]?.getD undef = .int .i64 k0 ∧ Only (fun _ => False) w wr) := ⟨_, rfl⟩
  have HI := hidP hI
  clear hI
  refine wp_loop_n I ?_ NN _ _ ?_
  · intro k T2 wr hIk
    rw [HI.out] at hIk
    obtain ⟨k0, hkk, hK, u79, ho⟩ := hIk
    have hT : T2.size = 735 := hK.1.trans hT0
    have a23 := hK.at' hT 23 (by decide) t23 (by decide) (by decide)
    have a24 := hK.at' hT 24 (by decide) t24 (by decide) (by decide)
    have a51 := hK.at' hT 51 (by decide) t51 (by decide) (by decide)
    have a59 := hK.at' hT 59 (by decide) t59 (by decide) (by decide)
    have a79 : T2[79]'(by omega) = _ := at_of _ u79
    have HK := hidP hK
    clear hK u79
    have HO := hidP ho
    clear ho
    go_upto_if 702 with fail
    refine wp_cond_at (decide (k0 < NN)) (by simp [Act.eval, hT]) (fun h => ?_) (fun h => ?_)
    · have hk : k0 < NN := of_decide_eq_true h
      clear h
      obtain ⟨hPL, ⟨M, hM1, hM2⟩, hca⟩ := H0.out
      rw [← HNE.out] at hPL hM1 hM2
      have cP : wr.cell? ⟨PL, 16, none⟩ = some (.slice (some ⟨CO, 0, none⟩) NN NN) := by rw [cell_of_only HO.out hPLw (fun h => h)]; exact hPL
      have hMc := hM2 k0 hk
      have cA0 := (hca.only HO.out (fun h => h)).cell k0 (by omega)
      have cM0 := (hM1.only HO.out (fun h => h)).cell k0 hk
      have j1 : (0 : Int) ≤ (k0 : Int) := by omega
      have j2 : (k0 : Int) < 36 := by omega
      have j3 : (k0 : Int) < (NN : Int) := by omega
      refine gen_frame (fun T2 => T2.size = 735 ∧ Keeps 81 734 [79, 80] T T2 ∧ T2[79]?.getD undef = .int .i64 k0) ⟨by simp [hT], ?_, by simp [hT, a23, a24, a51, a59, a79]⟩ ?_
      · repeat (refine Keeps.put ?_ _ _ (by first | exact .inr ⟨by decide, by decide⟩ | exact .inl (by decide)))
        exact HK.out
      clear a23 a24 a51 a59 a79 HK hT
      clear T2
      rintro T2 ⟨hT, hK, u79⟩
      have a23 := hK.at' hT 23 (by decide) t23 (by decide) (by decide)
      have a24 := hK.at' hT 24 (by decide) t24 (by decide) (by decide)
      have a51 := hK.at' hT 51 (by decide) t51 (by decide) (by decide)
      have a59 := hK.at' hT 59 (by decide) t59 (by decide) (by decide)
      have a79 : T2[79]'(by omega) = _ := at_of _ u79
      have HK := hidP hK
      clear hK u79
      rcases HCM.out k0 (by rw [← HNE.out]; exact hk) with hc | ⟨ct, hct1, hct2, hc⟩
      · rw [hc] at hMc
        have hMe : M k0 = .slice none 0 0 := hMc
        have cM : wr.cell? ⟨CO, k0, none⟩ = some (.slice none 0 0) := by rw [← hMe]; exact cM0
        have cA : wr.cell? ⟨CA, k0, none⟩ = some (.int .i64 0) := by
          have : caOf cm k0 = 0 := by unfold caOf; rw [hc]
          rw [this] at cA0
          exact cA0
        clear hMc cM0 cA0 hM1 hM2 hPL hca hMe
        have hne := sliceNe37
        go_upto_if 715 with fail
        refine wp_cond_at true (by simp [Act.eval, hT]) (fun _ => ?_) (fun h => by cases h)
        refine gen_frame (fun T2 => T2.size = 735 ∧ Keeps 81 734 [79, 80] T T2 ∧ T2[79]?.getD undef = .int .i64 k0 ∧ T2[80]?.getD undef = .slice none 0 0) ⟨by simp [hT], ?_, by simp [hT, a23, a24, a51, a59, a79], by simp [hT, a23, a24, a51, a59, a79]⟩ ?_
        · repeat (refine Keeps.put ?_ _ _ (by first | exact .inr ⟨by decide, by decide⟩ | exact .inl (by decide)))
          exact HK.out
        clear a23 a24 a51 a59 a79 HK hT
        clear T2
        rintro T2 ⟨hT, hK, u79, u80⟩
        have a23 := hK.at' hT 23 (by decide) t23 (by decide) (by decide)
        have a24 := hK.at' hT 24 (by decide) t24 (by decide) (by decide)
        have a51 := hK.at' hT 51 (by decide) t51 (by decide) (by decide)
        have a59 := hK.at' hT 59 (by decide) t59 (by decide) (by decide)
        have a79 : T2[79]'(by omega) = _ := at_of _ u79
        have a80 : T2[80]'(by omega) = _ := at_of _ u80
        have HK := hidP hK
        clear hK u79 u80
        go_upto_if 717 with fail
        refine wp_cond_at false (by simp [Act.eval, hT]) (fun h => by cases h) (fun _ => ?_)
        go_wp2_with fail
        first | refine ⟨trivial, k - 1, by omega, ?_⟩ | refine ⟨k - 1, by omega, ?_⟩
        rw [HI.out]
        refine ⟨k0 + 1, by omega, ?_, by simp [hT], HO.out⟩
        repeat (refine Keeps.put ?_ _ _ (by first | exact .inr ⟨by decide, by decide⟩ | exact .inl (by decide)))
        exact HK.out
      · rw [hc] at hMc
        obtain ⟨b, hMe, hb1, hb2, hbr⟩ : ∃ b, M k0 = .slice (some ⟨b, 0, none⟩) 1 1 ∧ base ≤ b ∧ g ≠ some b ∧ Row w b 40 3 (coreM (k0 % p.n + 1) ct) := hMc
        have cM : wr.cell? ⟨CO, k0, none⟩ = some (.slice (some ⟨b, 0, none⟩) 1 1) := by rw [← hMe]; exact cM0
        have cA : wr.cell? ⟨CA, k0, none⟩ = some (.int .i64 (ct : Nat)) := by
          have : caOf cm k0 = ct := by unfold caOf; rw [hc]
          rw [this] at cA0
          exact cA0
        obtain ⟨x0, hx0⟩ : ∃ x0, x0 = k0 % p.n := ⟨_, rfl⟩
        obtain ⟨x1, hx1⟩ : ∃ x1, x1 = x0 + 1 := ⟨_, rfl⟩
        obtain ⟨kb, hkb'⟩ : ∃ kb : ByteArray, kb = ⟨#[107]⟩ := ⟨_, rfl⟩
        have hkb : (⟨#[107]⟩ : ByteArray) = kb := hkb'.symm
        have hbw := hbr.only HO.out (fun h => h)
        have cb0 : wr.cell? ⟨b, 0, none⟩ = some (.int .i64 (x1 : Nat)) := by rw [hx1, hx0]; exact hbw.cell 0 (by omega)
        have cb1 : wr.cell? ⟨b, 1, none⟩ = some (.int .i64 (ct : Nat)) := hbw.cell 1 (by omega)
        have cb2 : wr.cell? ⟨b, 2, none⟩ = some (.string kb) := by rw [hkb']; exact hbw.cell 2 (by omega)
        have hrem : (k0 : Int).tmod (p.n : Int) = (x0 : Int) := by rw [hx0, Int.tmod_eq_emod_of_nonneg (by omega)]; push_cast; rfl
        have hx0b : x0 < p.n := by rw [hx0]; exact Nat.mod_lt _ (by omega)
        have hx1I : (x0 : Int) + 1 = (x1 : Int) := by omega
        have wrx : IntKind.i64.wrap (x1 : Int) = (x1 : Int) := by rw [IntKind.wrap_i64]; omega
        have hn0 : ¬ (p.n : Int) = 0 := by omega
        have hn0z : ¬ p.n = 0 := by omega
        have hct0 : ¬ (ct : Int) = 0 := by omega
        have hct0z : ¬ ct = 0 := by omega
        clear cM0 cA0 hM1 hM2 hPL hca hMe hbr hbw hx0 hx1 hkb'
        have HKB := hidP hkb
        clear hkb
        go_upto_if 715 with fail
        refine wp_cond_at false (by simp [Act.eval, hT, hct0, hct0z]) (fun h => by cases h) (fun _ => ?_)
        refine gen_frame (fun T2 => T2.size = 735 ∧ Keeps 81 734 [79, 80] T T2 ∧ T2[79]?.getD undef = .int .i64 k0 ∧ T2[80]?.getD undef = .slice (some ⟨b, 0, none⟩) 1 1) ⟨by simp [hT], ?_, by simp [hT, a79], by simp [hT]⟩ ?_
        · repeat (refine Keeps.put ?_ _ _ (by first | exact .inr ⟨by decide, by decide⟩ | exact .inl (by decide)))
          exact HK.out
        clear a23 a24 a51 a59 a79 HK hT
        clear T2
        rintro T2 ⟨hT, hK, s79, s80⟩
        have s23 := hK.get t23 (by decide) (by decide)
        have s59 := hK.get t59 (by decide) (by decide)
        have HK := hidP hK
        clear hK
        go_upto_region 183 with fail
        have hkb := HKB.out
        refine region_quietP (by kernel_rfl) (by kernel_rfl) _ 735 hT [.slice (some ⟨b, 0, none⟩) 1 1, .int .i64 1, .bool false, .bool false, .slice (some ⟨b, 0, none⟩) 1 1, .pointer (some ⟨b, 0, none⟩), .agg #[.int .i64 (x1 : Nat), .int .i64 (ct : Nat), .string kb], .int .i64 k0, .int .i64 p.n, .int .i64 x0, .int .i64 x1, .int .i64 k0, .pointer (some ⟨CA, k0, none⟩), .int .i64 ct, .agg #[.int .i64 (x1 : Nat), .int .i64 (ct : Nat), .string kb], .bool false, .bool false] wr (by decide) (by decide) (by decide) ?_ ?_
        · intro i hi U hU hK hprev
          have hi' : i < 17 := hi
          rcases (by omega : i = 0 ∨ i = 1 ∨ i = 2 ∨ i = 3 ∨ i = 4 ∨ i = 5 ∨ i = 6 ∨ i = 7 ∨ i = 8 ∨ i = 9 ∨ i = 10 ∨ i = 11 ∨ i = 12 ∨ i = 13 ∨ i = 14 ∨ i = 15 ∨ i = 16) with rfl | rfl | rfl | rfl | rfl | rfl | rfl | rfl | rfl | rfl | rfl | rfl | rfl | rfl | rfl | rfl | rfl
          · have hx80 : U[80]?.getD undef = .slice (some ⟨b, 0, none⟩) 1 1 := kept_of hK 80 (by decide) (by assumption)
            refine .inl ⟨want_none rfl, fun n => ?_⟩
            have q0 : (wr.drewN n).cell? ⟨b, 0, none⟩ = some (.int .i64 (x1 : Nat)) := cb0
            have q1 : (wr.drewN n).cell? ⟨b, 1, none⟩ = some (.int .i64 (ct : Nat)) := cb1
            have q2 : (wr.drewN n).cell? ⟨b, 2, none⟩ = some (.string kb) := cb2
            have q3 : (wr.drewN n).cell? ⟨CA, k0, none⟩ = some (.int .i64 (ct : Nat)) := cA
            simp [execOp, go_sem, hx80, q0, q1, q2, q3, j1, j2, hrem, hx1I, wrx, hkb, aggNe40, hn0, hn0z]
          · have d0 : U[718]?.getD undef = .slice (some ⟨b, 0, none⟩) 1 1 := slot_of (hprev 0 (by decide)) rfl
            refine .inl ⟨want_none rfl, fun n => ?_⟩
            have q0 : (wr.drewN n).cell? ⟨b, 0, none⟩ = some (.int .i64 (x1 : Nat)) := cb0
            have q1 : (wr.drewN n).cell? ⟨b, 1, none⟩ = some (.int .i64 (ct : Nat)) := cb1
            have q2 : (wr.drewN n).cell? ⟨b, 2, none⟩ = some (.string kb) := cb2
            have q3 : (wr.drewN n).cell? ⟨CA, k0, none⟩ = some (.int .i64 (ct : Nat)) := cA
            simp [execOp, go_sem, d0, q0, q1, q2, q3, j1, j2, hrem, hx1I, wrx, hkb, aggNe40, hn0, hn0z]
          · have d1 : U[719]?.getD undef = .int .i64 1 := slot_of (hprev 1 (by decide)) rfl
            refine .inl ⟨want_none rfl, fun n => ?_⟩
            have q0 : (wr.drewN n).cell? ⟨b, 0, none⟩ = some (.int .i64 (x1 : Nat)) := cb0
            have q1 : (wr.drewN n).cell? ⟨b, 1, none⟩ = some (.int .i64 (ct : Nat)) := cb1
            have q2 : (wr.drewN n).cell? ⟨b, 2, none⟩ = some (.string kb) := cb2
            have q3 : (wr.drewN n).cell? ⟨CA, k0, none⟩ = some (.int .i64 (ct : Nat)) := cA
            simp [execOp, go_sem, d1, q0, q1, q2, q3, j1, j2, hrem, hx1I, wrx, hkb, aggNe40, hn0, hn0z]
          · have d2 : U[720]?.getD undef = .bool false := slot_of (hprev 2 (by decide)) rfl
            refine .inl ⟨want_none rfl, fun n => ?_⟩
            have q0 : (wr.drewN n).cell? ⟨b, 0, none⟩ = some (.int .i64 (x1 : Nat)) := cb0
            have q1 : (wr.drewN n).cell? ⟨b, 1, none⟩ = some (.int .i64 (ct : Nat)) := cb1
            have q2 : (wr.drewN n).cell? ⟨b, 2, none⟩ = some (.string kb) := cb2
            have q3 : (wr.drewN n).cell? ⟨CA, k0, none⟩ = some (.int .i64 (ct : Nat)) := cA
            simp [execOp, go_sem, d2, q0, q1, q2, q3, j1, j2, hrem, hx1I, wrx, hkb, aggNe40, hn0, hn0z]
          · have hx80 : U[80]?.getD undef = .slice (some ⟨b, 0, none⟩) 1 1 := kept_of hK 80 (by decide) (by assumption)
            refine .inl ⟨want_of (d := 721) rfl rfl (by omega) (slot_of (hprev 3 (by decide)) rfl), fun n => ?_⟩
            have q0 : (wr.drewN n).cell? ⟨b, 0, none⟩ = some (.int .i64 (x1 : Nat)) := cb0
            have q1 : (wr.drewN n).cell? ⟨b, 1, none⟩ = some (.int .i64 (ct : Nat)) := cb1
            have q2 : (wr.drewN n).cell? ⟨b, 2, none⟩ = some (.string kb) := cb2
            have q3 : (wr.drewN n).cell? ⟨CA, k0, none⟩ = some (.int .i64 (ct : Nat)) := cA
            simp [execOp, go_sem, hx80, q0, q1, q2, q3, j1, j2, hrem, hx1I, wrx, hkb, aggNe40, hn0, hn0z]
          · have d4 : U[722]?.getD undef = .slice (some ⟨b, 0, none⟩) 1 1 := slot_of (hprev 4 (by decide)) rfl
            refine .inl ⟨want_of (d := 721) rfl rfl (by omega) (slot_of (hprev 3 (by decide)) rfl), fun n => ?_⟩
            have q0 : (wr.drewN n).cell? ⟨b, 0, none⟩ = some (.int .i64 (x1 : Nat)) := cb0
            have q1 : (wr.drewN n).cell? ⟨b, 1, none⟩ = some (.int .i64 (ct : Nat)) := cb1
            have q2 : (wr.drewN n).cell? ⟨b, 2, none⟩ = some (.string kb) := cb2
            have q3 : (wr.drewN n).cell? ⟨CA, k0, none⟩ = some (.int .i64 (ct : Nat)) := cA
            simp [execOp, go_sem, d4, q0, q1, q2, q3, j1, j2, hrem, hx1I, wrx, hkb, aggNe40, hn0, hn0z]
          · have d5 : U[723]?.getD undef = .pointer (some ⟨b, 0, none⟩) := slot_of (hprev 5 (by decide)) rfl
            refine .inl ⟨want_of (d := 721) rfl rfl (by omega) (slot_of (hprev 3 (by decide)) rfl), fun n => ?_⟩
            have q0 : (wr.drewN n).cell? ⟨b, 0, none⟩ = some (.int .i64 (x1 : Nat)) := cb0
            have q1 : (wr.drewN n).cell? ⟨b, 1, none⟩ = some (.int .i64 (ct : Nat)) := cb1
            have q2 : (wr.drewN n).cell? ⟨b, 2, none⟩ = some (.string kb) := cb2
            have q3 : (wr.drewN n).cell? ⟨CA, k0, none⟩ = some (.int .i64 (ct : Nat)) := cA
            simp [execOp, go_sem, d5, q0, q1, q2, q3, j1, j2, hrem, hx1I, wrx, hkb, aggNe40, hn0, hn0z]
          · have hx79 : U[79]?.getD undef = .int .i64 k0 := kept_of hK 79 (by decide) (by assumption)
            refine .inl ⟨want_of (d := 721) rfl rfl (by omega) (slot_of (hprev 3 (by decide)) rfl), fun n => ?_⟩
            have q0 : (wr.drewN n).cell? ⟨b, 0, none⟩ = some (.int .i64 (x1 : Nat)) := cb0
            have q1 : (wr.drewN n).cell? ⟨b, 1, none⟩ = some (.int .i64 (ct : Nat)) := cb1
            have q2 : (wr.drewN n).cell? ⟨b, 2, none⟩ = some (.string kb) := cb2
            have q3 : (wr.drewN n).cell? ⟨CA, k0, none⟩ = some (.int .i64 (ct : Nat)) := cA
            simp [execOp, go_sem, hx79, q0, q1, q2, q3, j1, j2, hrem, hx1I, wrx, hkb, aggNe40, hn0, hn0z]
          · have hx23 : U[23]?.getD undef = .int .i64 p.n := kept_of hK 23 (by decide) (by assumption)
            refine .inl ⟨want_of (d := 721) rfl rfl (by omega) (slot_of (hprev 3 (by decide)) rfl), fun n => ?_⟩
            have q0 : (wr.drewN n).cell? ⟨b, 0, none⟩ = some (.int .i64 (x1 : Nat)) := cb0
            have q1 : (wr.drewN n).cell? ⟨b, 1, none⟩ = some (.int .i64 (ct : Nat)) := cb1
            have q2 : (wr.drewN n).cell? ⟨b, 2, none⟩ = some (.string kb) := cb2
            have q3 : (wr.drewN n).cell? ⟨CA, k0, none⟩ = some (.int .i64 (ct : Nat)) := cA
            simp [execOp, go_sem, hx23, q0, q1, q2, q3, j1, j2, hrem, hx1I, wrx, hkb, aggNe40, hn0, hn0z]
          · have d7 : U[725]?.getD undef = .int .i64 k0 := slot_of (hprev 7 (by decide)) rfl
            have d8 : U[726]?.getD undef = .int .i64 p.n := slot_of (hprev 8 (by decide)) rfl
            refine .inl ⟨want_of (d := 721) rfl rfl (by omega) (slot_of (hprev 3 (by decide)) rfl), fun n => ?_⟩
            have q0 : (wr.drewN n).cell? ⟨b, 0, none⟩ = some (.int .i64 (x1 : Nat)) := cb0
            have q1 : (wr.drewN n).cell? ⟨b, 1, none⟩ = some (.int .i64 (ct : Nat)) := cb1
            have q2 : (wr.drewN n).cell? ⟨b, 2, none⟩ = some (.string kb) := cb2
            have q3 : (wr.drewN n).cell? ⟨CA, k0, none⟩ = some (.int .i64 (ct : Nat)) := cA
            simp [execOp, go_sem, d7, d8, q0, q1, q2, q3, j1, j2, hrem, hx1I, wrx, hkb, aggNe40, hn0, hn0z]
          · have d9 : U[727]?.getD undef = .int .i64 x0 := slot_of (hprev 9 (by decide)) rfl
            refine .inl ⟨want_of (d := 721) rfl rfl (by omega) (slot_of (hprev 3 (by decide)) rfl), fun n => ?_⟩
            have q0 : (wr.drewN n).cell? ⟨b, 0, none⟩ = some (.int .i64 (x1 : Nat)) := cb0
            have q1 : (wr.drewN n).cell? ⟨b, 1, none⟩ = some (.int .i64 (ct : Nat)) := cb1
            have q2 : (wr.drewN n).cell? ⟨b, 2, none⟩ = some (.string kb) := cb2
            have q3 : (wr.drewN n).cell? ⟨CA, k0, none⟩ = some (.int .i64 (ct : Nat)) := cA
            simp [execOp, go_sem, d9, q0, q1, q2, q3, j1, j2, hrem, hx1I, wrx, hkb, aggNe40, hn0, hn0z]
          · have hx79 : U[79]?.getD undef = .int .i64 k0 := kept_of hK 79 (by decide) (by assumption)
            refine .inl ⟨want_of (d := 721) rfl rfl (by omega) (slot_of (hprev 3 (by decide)) rfl), fun n => ?_⟩
            have q0 : (wr.drewN n).cell? ⟨b, 0, none⟩ = some (.int .i64 (x1 : Nat)) := cb0
            have q1 : (wr.drewN n).cell? ⟨b, 1, none⟩ = some (.int .i64 (ct : Nat)) := cb1
            have q2 : (wr.drewN n).cell? ⟨b, 2, none⟩ = some (.string kb) := cb2
            have q3 : (wr.drewN n).cell? ⟨CA, k0, none⟩ = some (.int .i64 (ct : Nat)) := cA
            simp [execOp, go_sem, hx79, q0, q1, q2, q3, j1, j2, hrem, hx1I, wrx, hkb, aggNe40, hn0, hn0z]
          · have hx59 : U[59]?.getD undef = .pointer (some ⟨CA, 0, none⟩) := kept_of hK 59 (by decide) (by assumption)
            have d11 : U[729]?.getD undef = .int .i64 k0 := slot_of (hprev 11 (by decide)) rfl
            refine .inl ⟨want_of (d := 721) rfl rfl (by omega) (slot_of (hprev 3 (by decide)) rfl), fun n => ?_⟩
            have q0 : (wr.drewN n).cell? ⟨b, 0, none⟩ = some (.int .i64 (x1 : Nat)) := cb0
            have q1 : (wr.drewN n).cell? ⟨b, 1, none⟩ = some (.int .i64 (ct : Nat)) := cb1
            have q2 : (wr.drewN n).cell? ⟨b, 2, none⟩ = some (.string kb) := cb2
            have q3 : (wr.drewN n).cell? ⟨CA, k0, none⟩ = some (.int .i64 (ct : Nat)) := cA
            simp [execOp, go_sem, hx59, d11, q0, q1, q2, q3, j1, j2, hrem, hx1I, wrx, hkb, aggNe40, hn0, hn0z]
          · have d12 : U[730]?.getD undef = .pointer (some ⟨CA, k0, none⟩) := slot_of (hprev 12 (by decide)) rfl
            refine .inl ⟨want_of (d := 721) rfl rfl (by omega) (slot_of (hprev 3 (by decide)) rfl), fun n => ?_⟩
            have q0 : (wr.drewN n).cell? ⟨b, 0, none⟩ = some (.int .i64 (x1 : Nat)) := cb0
            have q1 : (wr.drewN n).cell? ⟨b, 1, none⟩ = some (.int .i64 (ct : Nat)) := cb1
            have q2 : (wr.drewN n).cell? ⟨b, 2, none⟩ = some (.string kb) := cb2
            have q3 : (wr.drewN n).cell? ⟨CA, k0, none⟩ = some (.int .i64 (ct : Nat)) := cA
            simp [execOp, go_sem, d12, q0, q1, q2, q3, j1, j2, hrem, hx1I, wrx, hkb, aggNe40, hn0, hn0z]
          · have d10 : U[728]?.getD undef = .int .i64 x1 := slot_of (hprev 10 (by decide)) rfl
            have d13 : U[731]?.getD undef = .int .i64 ct := slot_of (hprev 13 (by decide)) rfl
            refine .inl ⟨want_of (d := 721) rfl rfl (by omega) (slot_of (hprev 3 (by decide)) rfl), fun n => ?_⟩
            have q0 : (wr.drewN n).cell? ⟨b, 0, none⟩ = some (.int .i64 (x1 : Nat)) := cb0
            have q1 : (wr.drewN n).cell? ⟨b, 1, none⟩ = some (.int .i64 (ct : Nat)) := cb1
            have q2 : (wr.drewN n).cell? ⟨b, 2, none⟩ = some (.string kb) := cb2
            have q3 : (wr.drewN n).cell? ⟨CA, k0, none⟩ = some (.int .i64 (ct : Nat)) := cA
            simp [execOp, go_sem, d10, d13, q0, q1, q2, q3, j1, j2, hrem, hx1I, wrx, hkb, aggNe40, hn0, hn0z]
          · have d6 : U[724]?.getD undef = .agg #[.int .i64 (x1 : Nat), .int .i64 (ct : Nat), .string kb] := slot_of (hprev 6 (by decide)) rfl
            have d14 : U[732]?.getD undef = .agg #[.int .i64 (x1 : Nat), .int .i64 (ct : Nat), .string kb] := slot_of (hprev 14 (by decide)) rfl
            refine .inl ⟨want_of (d := 721) rfl rfl (by omega) (slot_of (hprev 3 (by decide)) rfl), fun n => ?_⟩
            have q0 : (wr.drewN n).cell? ⟨b, 0, none⟩ = some (.int .i64 (x1 : Nat)) := cb0
            have q1 : (wr.drewN n).cell? ⟨b, 1, none⟩ = some (.int .i64 (ct : Nat)) := cb1
            have q2 : (wr.drewN n).cell? ⟨b, 2, none⟩ = some (.string kb) := cb2
            have q3 : (wr.drewN n).cell? ⟨CA, k0, none⟩ = some (.int .i64 (ct : Nat)) := cA
            simp [execOp, go_sem, d6, d14, q0, q1, q2, q3, j1, j2, hrem, hx1I, wrx, hkb, aggNe40, hn0, hn0z]
          · have d3 : U[721]?.getD undef = .bool false := slot_of (hprev 3 (by decide)) rfl
            have d15 : U[733]?.getD undef = .bool false := slot_of (hprev 15 (by decide)) rfl
            refine .inl ⟨want_none rfl, fun n => ?_⟩
            have q0 : (wr.drewN n).cell? ⟨b, 0, none⟩ = some (.int .i64 (x1 : Nat)) := cb0
            have q1 : (wr.drewN n).cell? ⟨b, 1, none⟩ = some (.int .i64 (ct : Nat)) := cb1
            have q2 : (wr.drewN n).cell? ⟨b, 2, none⟩ = some (.string kb) := cb2
            have q3 : (wr.drewN n).cell? ⟨CA, k0, none⟩ = some (.int .i64 (ct : Nat)) := cA
            simp [execOp, go_sem, d3, d15, q0, q1, q2, q3, j1, j2, hrem, hx1I, wrx, hkb, aggNe40, hn0, hn0z]
        · intro U n hU hKU hall
          have b734 : U[734]?.getD undef = .bool false := slot_of (hall 16 (by decide)) rfl
          have b79 : U[79]'(by omega) = .int .i64 k0 := at_of _ (kept_of hKU 79 (by decide) s79)
          have hK2 := Keeps.trans HK.out (Kept.keeps (lo := 81) (hi := 734) (vs := [79, 80]) hKU (hU.trans hT.symm) (by decide))
          have HK2 := hidP hK2
          have HO2 := hidP (HO.out.drewN n)
          clear hKU hall hK2 s79 s80 s23 s59 cP cM cA cb0 cb1 cb2 hkb
          go_upto_if 734 with fail
          refine wp_cond_at false (by simpa [Act.eval] using b734) (fun h => by cases h) (fun _ => ?_)
          go_wp2_with fail
          first | refine ⟨trivial, k - 1, by omega, ?_⟩ | refine ⟨k - 1, by omega, ?_⟩
          rw [HI.out]
          refine ⟨k0 + 1, by omega, ?_, by simp [hU], HO2.out⟩
          repeat (refine Keeps.put ?_ _ _ (by first | exact .inr ⟨by decide, by decide⟩ | exact .inl (by decide)))
          exact HK2.out
    · clear h
      go_wp2_with fail
      refine HQ.out _ _ ?_ HO.out
      repeat (refine Keeps.put ?_ _ _ (by first | exact .inr ⟨by decide, by decide⟩ | exact .inl (by decide)))
      exact HK.out
  · rw [HI.out]
    exact ⟨0, by omega, Keeps.refl, t79, Only.refl⟩
end Go.Proofs.Ybulkcawy
