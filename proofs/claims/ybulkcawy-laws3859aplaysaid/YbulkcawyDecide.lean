/-
  decide: who completes the round and has not decided takes its decision.
-/
import Derived.Test.YbulkcawyGive
namespace Go.Proofs.Ybulkcawy
open Go.RowKit
set_option linter.unusedSimpArgs false
set_option linter.unusedVariables false
set_option maxRecDepth 100000
set_option maxHeartbeats 4000000

/-- The outcomes' cells: five to a process; dt: when it decided. -/
def outM (cr : Nat → Nat) (dt : Nat → Option Nat) (j : Nat) : Value :=
  if j % 5 = 0 then .int .i64 ((j / 5 + 1 : Nat) : Int)
  else if j % 5 = 1 then .bool (dt (j / 5 + 1)).isSome
  else if j % 5 = 2 then .int .i64 (if (dt (j / 5 + 1)).isSome then ((j / 5 + 1 : Nat) : Int) * 7 else 0)
  else if j % 5 = 3 then .int .i64 (((dt (j / 5 + 1)).getD 0 : Nat) : Int)
  else .int .i64 (cr (j / 5 + 1))

/-- The decisions behind 'decide time', those of the first k processes anew. -/
def decM (c : Cfg) (time : Nat) (got : Nat → Nat) (k : Nat) (dt : Nat → Option Nat) (q : Nat) : Option Nat :=
  if 1 ≤ q ∧ q ≤ k ∧ dt q = none ∧ compl c.cr q time = true ∧ c.dec q ≤ got q then some time else dt q

theorem outM_at (cr : Nat → Nat) (dt : Nat → Option Nat) (j f : Nat) (hf : f < 5) : outM cr dt (j * 5 + f) =
    if f = 0 then .int .i64 ((j + 1 : Nat) : Int) else if f = 1 then .bool (dt (j + 1)).isSome else if f = 2 then .int .i64 (if (dt (j + 1)).isSome then ((j + 1 : Nat) : Int) * 7 else 0) else if f = 3 then .int .i64 (((dt (j + 1)).getD 0 : Nat) : Int) else .int .i64 (cr (j + 1)) := by
  have h1 : (j * 5 + f) % 5 = f := by omega
  have h2 : (j * 5 + f) / 5 = j := by omega
  simp only [outM, h1, h2]

theorem decM_same (c : Cfg) (time : Nat) (got : Nat → Nat) (q : Nat) (dt : Nat → Option Nat) (hq : 1 ≤ q) (h : ¬ (dt q = none ∧ compl c.cr q time = true ∧ c.dec q ≤ got q)) : decM c time got (q + 1 - 1) dt = decM c time got (q - 1) dt := by
  funext k
  unfold decM
  by_cases e : k = q
  · subst e
    rw [if_neg (fun h' => h ⟨h'.2.2.1, h'.2.2.2⟩), if_neg (by omega)]
  · by_cases h1 : 1 ≤ k ∧ k ≤ q - 1 ∧ dt k = none ∧ compl c.cr k time = true ∧ c.dec k ≤ got k
    · rw [if_pos h1, if_pos ⟨h1.1, by omega, h1.2.2⟩]
    · rw [if_neg h1, if_neg (fun h' => h1 ⟨h'.1, by omega, h'.2.2⟩)]
theorem decM_far (c : Cfg) (time : Nat) (got : Nat → Nat) (q k : Nat) (dt : Nat → Option Nat) (hk : k ≠ q) : decM c time got (q + 1 - 1) dt k = decM c time got (q - 1) dt k := by
  unfold decM
  by_cases h1 : 1 ≤ k ∧ k ≤ q - 1 ∧ dt k = none ∧ compl c.cr k time = true ∧ c.dec k ≤ got k
  · rw [if_pos h1, if_pos ⟨h1.1, by omega, h1.2.2⟩]
  · rw [if_neg h1, if_neg (fun h' => h1 ⟨h'.1, by omega, h'.2.2⟩)]
theorem decM_new (c : Cfg) (time : Nat) (got : Nat → Nat) (q : Nat) (dt : Nat → Option Nat) (hq : 1 ≤ q) (h : dt q = none ∧ compl c.cr q time = true ∧ c.dec q ≤ got q) : decM c time got (q + 1 - 1) dt q = some time := by
  unfold decM
  rw [if_pos ⟨hq, by omega, h⟩]

theorem decideC (c : Cfg) (role : Nat → Nat) (hap : c.Apart role) (time : Nat) (ht : time ≤ 100) (got : Nat → Nat) (dt : Nat → Option Nat) (w : World) (hst : Stat c w) (hp : Procs c w got) (hou : Row w c.OU 71 (c.n * 5) (outM c.cr dt)) :
    Calls Yba.prog 27 #[.pointer (some ⟨c.PL, 0, none⟩), .int .i64 time] w fun e w' => e = .returned (.tuple #[]) ∧ Row w' c.OU 71 (c.n * 5) (outM c.cr (decM c time got c.n dt)) ∧ Only (fun b => b = c.OU) w w' := by
  have hsm := hap.small
  have hOPL : c.PL ≠ c.OU := hap.ne hap.pl hap.ou (by decide)
  have hOC : c.C ≠ c.OU := hap.ne hap.cr hap.ou (by decide)
  have hOPR : c.PR ≠ c.OU := hap.ne hap.pr hap.ou (by decide)
  have hOAP : ∀ q, c.ap q ≠ c.OU := fun q => hap.ne (hap.ap q) hap.ou (by omega)
  have HAP := hidP hap
  have HN := hidP (And.intro hOPL (And.intro hOC (And.intro hOPR hOAP)))
  have HST := hidP hst
  have HP := hidP hp
  have HOU := hidP hou
  clear hst hp hou hOPL hOC hOPR hOAP hap
  refine calls_of_wp Yba.func27 rfl ?_
  simp only [Yba.ntmps27, List.size_toArray, List.length_cons, List.length_nil, Nat.reduceAdd, Nat.reduceSub, Array.replicate_succ, Array.replicate_zero, List.push_toArray, List.append_toArray, List.nil_append, List.cons_append]
  go_wp2_with fail
  obtain ⟨I, hI⟩ : ∃ I : Nat → Array Value → World → Prop, I = (fun k T wr => ∃ q, 1 ≤ q ∧ q + k = c.n + 1 ∧ T.size = 61 ∧ T[0]?.getD undef = .pointer (some ⟨c.PL, 0, none⟩) ∧ T[1]?.getD undef = .int .i64 time ∧ T[4]?.getD undef = .int .i64 q ∧
    Row wr c.OU 71 (c.n * 5) (outM c.cr (decM c time got (q - 1) dt)) ∧ Only (fun b => b = c.OU) w wr) := ⟨_, rfl⟩
  have HI := hidP hI
  clear hI
  refine wp_loop_n I ?_ c.n _ _ ?_
  · intro k T wr hIk
    rw [HI.out] at hIk
    obtain ⟨q, hq1, hqk, hT, t0, t1, t4, k1, k2⟩ := hIk
    obtain ⟨hOPL, hOC, hOPR, hOAP⟩ := HN.out
    have hsr : Stat c wr := HST.out.only k2 hOPL hOC hOPR
    have hpr : Procs c wr got := HP.out.only k2 (fun q _ _ => hOAP q)
    have a0 : T[0]'(by omega) = _ := at_of _ t0
    have a1 : T[1]'(by omega) = _ := at_of _ t1
    have a4 : T[4]'(by omega) = _ := at_of _ t4
    have cN : wr.cell? ⟨c.PL, 1, none⟩ = some (.int .i64 c.n) := hsr.pl.cell 1 (by omega)
    have cOU : wr.cell? ⟨c.PL, 11, none⟩ = some (.slice (some ⟨c.OU, 0, none⟩) c.n c.n) := hsr.pl.cell 11 (by omega)
    have HSR := hidP hsr
    have HPR := hidP hpr
    have K1 := hidP k1
    have K2 := hidP k2
    clear hsr hpr k1 k2 t0 t1 t4 hOPL hOC hOPR hOAP
    go_upto_if 14 with fail
    refine wp_cond_at (decide (q ≤ c.n)) (by simp [Act.eval, hT]) (fun h => ?_) (fun h => ?_)
    · have hqn : q ≤ c.n := of_decide_eq_true h
      clear h
      obtain ⟨j, hj⟩ : ∃ j, j = q - 1 := ⟨_, rfl⟩
      have hjq : (q : Int) - 1 = (j : Int) := by omega
      have hjn : j < c.n := by omega
      have i1 : (0 : Int) ≤ (j : Int) := by omega
      have i2 : (j : Int) < (c.n : Int) := by omega
      have HJ := hidP hj
      clear hj
      go_upto_region 4 with fail
      refine gen_frame (fun U => U.size = 61 ∧ U[0]?.getD undef = .pointer (some ⟨c.PL, 0, none⟩) ∧ U[1]?.getD undef = .int .i64 time ∧ U[4]?.getD undef = .int .i64 q ∧ U[5]?.getD undef = .pointer (some ⟨c.OU, j * 5, none⟩)) ⟨by simp [hT], by simp [hT, a0], by simp [hT, a1], by simp [hT, a4], by simp [hT]⟩ ?_
      rintro U0 ⟨hU, u0, u1, u4, u5⟩
      have hdq : decM c time got (q - 1) dt q = dt q := by unfold decM; rw [if_neg (by omega)]
      have hjj : j + 1 = q := by have := HJ.out; omega
      have cD : wr.cell? ⟨c.OU, j * 5 + 1, none⟩ = some (.bool (dt q).isSome) := by
        have := K1.out.cell (j * 5 + 1) (by omega)
        rw [outM_at _ _ _ _ (by omega)] at this
        simpa [hjj, hdq] using this
      clear a0 a1 a4 cN cOU
      obtain ⟨fa0, fl, fc, hfa⟩ := HAP.out.fasl
      have f4 : wr.cell? ⟨c.PL, 4, none⟩ = some (.int .i64 c.last) := HSR.out.pl.cell 4 (by omega)
      have f5 : wr.cell? ⟨c.PL, 5, none⟩ = some (.slice (some ⟨c.C, 0, none⟩) (c.n + 1) (c.n + 1)) := HSR.out.pl.cell 5 (by omega)
      have f6 : wr.cell? ⟨c.PL, 6, none⟩ = some (.slice (some ⟨c.R, 0, none⟩) (c.n + 1) (c.n + 1)) := HSR.out.pl.cell 6 (by omega)
      have f7 : wr.cell? ⟨c.PL, 7, none⟩ = some (.slice (some ⟨c.Lo, 0, none⟩) (c.n + 1) (c.n + 1)) := HSR.out.pl.cell 7 (by omega)
      have f8 : wr.cell? ⟨c.PL, 8, none⟩ = some (.slice fa0 fl fc) := (HSR.out.pl.cell 8 (by omega)).trans (by rw [← hfa]; rfl)
      have f9 : wr.cell? ⟨c.PL, 9, none⟩ = some (.slice (some ⟨c.LO, 0, none⟩) (c.n + 1) (c.n + 1)) := HSR.out.pl.cell 9 (by omega)
      have HFA := hidP hfa
      clear hfa hjq
      cases hd : (dt q).isSome with
      | true =>
        rw [hd] at cD
        refine region_plainW _ 61 hU [.pointer (some ⟨c.OU, j * 5, none⟩), .pointer (some ⟨c.OU, j * 5, none⟩), .pointer (some ⟨c.OU, j * 5 + 1, none⟩), .bool true, .bool true, undef, undef, undef, undef, undef, undef, undef, undef, .bool true] (fun _ w1 => w1 = wr) wr rfl (by decide) (by decide) ?_ ?_
        · intro i hi U w1 hSt hU hK hprev
          have hi' : i < 14 := hi
          rcases (by omega : i = 0 ∨ i = 1 ∨ i = 2 ∨ i = 3 ∨ i = 4 ∨ i = 5 ∨ i = 6 ∨ i = 7 ∨ i = 8 ∨ i = 9 ∨ i = 10 ∨ i = 11 ∨ i = 12 ∨ i = 13) with rfl | rfl | rfl | rfl | rfl | rfl | rfl | rfl | rfl | rfl | rfl | rfl | rfl | rfl
          · have hw1 : w1 = wr := hSt
            subst hw1
            have hx5 : U[5]?.getD undef = .pointer (some ⟨c.OU, j * 5, none⟩) := kept_of hK 5 (by decide) (by assumption)
            refine .inl ⟨want_none rfl, ?_⟩
            refine step_of_run (v := .pointer (some ⟨c.OU, j * 5, none⟩)) (w' := _) ?_ ⟨rfl, _, rfl, (fun h => by cases h), rfl⟩
            simp [execOp, go_sem, hx5, cD]
          · have hw1 : w1 = wr := hSt
            subst hw1
            have d0 : U[24]?.getD undef = .pointer (some ⟨c.OU, j * 5, none⟩) := slot_of (hprev 0 (by decide)) rfl
            refine .inl ⟨want_none rfl, ?_⟩
            refine step_of_run (v := .pointer (some ⟨c.OU, j * 5, none⟩)) (w' := _) ?_ ⟨rfl, _, rfl, (fun h => by cases h), rfl⟩
            simp [execOp, go_sem, d0, cD]
          · have hw1 : w1 = wr := hSt
            subst hw1
            have d1 : U[25]?.getD undef = .pointer (some ⟨c.OU, j * 5, none⟩) := slot_of (hprev 1 (by decide)) rfl
            refine .inl ⟨want_none rfl, ?_⟩
            refine step_of_run (v := .pointer (some ⟨c.OU, j * 5 + 1, none⟩)) (w' := _) ?_ ⟨rfl, _, rfl, (fun h => by cases h), rfl⟩
            simp [execOp, go_sem, d1, cD]
          · have hw1 : w1 = wr := hSt
            subst hw1
            have d2 : U[26]?.getD undef = .pointer (some ⟨c.OU, j * 5 + 1, none⟩) := slot_of (hprev 2 (by decide)) rfl
            refine .inl ⟨want_none rfl, ?_⟩
            refine step_of_run (v := .bool true) (w' := _) ?_ ⟨rfl, _, rfl, (fun h => by cases h), rfl⟩
            simp [execOp, go_sem, d2, cD]
          · have hw1 : w1 = wr := hSt
            subst hw1
            have d3 : U[27]?.getD undef = .bool true := slot_of (hprev 3 (by decide)) rfl
            refine .inl ⟨want_none rfl, ?_⟩
            refine step_of_run (v := .bool true) (w' := _) ?_ ⟨rfl, _, rfl, (fun h => by cases h), rfl⟩
            simp [execOp, go_sem, d3, cD]
          · have hw1 : w1 = wr := hSt
            subst hw1
            exact .inr ⟨skip_of (d := 28) rfl rfl (by omega) (slot_of (hprev 4 (by decide)) rfl), rfl, rfl⟩
          · have hw1 : w1 = wr := hSt
            subst hw1
            exact .inr ⟨skip_of (d := 28) rfl rfl (by omega) (slot_of (hprev 4 (by decide)) rfl), rfl, rfl⟩
          · have hw1 : w1 = wr := hSt
            subst hw1
            exact .inr ⟨skip_of (d := 28) rfl rfl (by omega) (slot_of (hprev 4 (by decide)) rfl), rfl, rfl⟩
          · have hw1 : w1 = wr := hSt
            subst hw1
            exact .inr ⟨skip_of (d := 28) rfl rfl (by omega) (slot_of (hprev 4 (by decide)) rfl), rfl, rfl⟩
          · have hw1 : w1 = wr := hSt
            subst hw1
            exact .inr ⟨skip_of (d := 28) rfl rfl (by omega) (slot_of (hprev 4 (by decide)) rfl), rfl, rfl⟩
          · have hw1 : w1 = wr := hSt
            subst hw1
            exact .inr ⟨skip_of (d := 28) rfl rfl (by omega) (slot_of (hprev 4 (by decide)) rfl), rfl, rfl⟩
          · have hw1 : w1 = wr := hSt
            subst hw1
            exact .inr ⟨skip_of (d := 28) rfl rfl (by omega) (slot_of (hprev 4 (by decide)) rfl), rfl, rfl⟩
          · have hw1 : w1 = wr := hSt
            subst hw1
            exact .inr ⟨skip_of (d := 28) rfl rfl (by omega) (slot_of (hprev 4 (by decide)) rfl), rfl, rfl⟩
          · have hw1 : w1 = wr := hSt
            subst hw1
            have d4 : U[28]?.getD undef = .bool true := slot_of (hprev 4 (by decide)) rfl
            have d12 : U[36]?.getD undef = undef := slot_of (hprev 12 (by decide)) rfl
            refine .inl ⟨want_none rfl, ?_⟩
            refine step_of_run (v := .bool true) (w' := _) ?_ ⟨rfl, _, rfl, (fun h => by cases h), rfl⟩
            simp [execOp, go_sem, d4, d12, cD]
        · intro U w1 hSt hU2 hK hall
          have hw1 : w1 = wr := hSt
          subst hw1
          have d0 : U[0]'(by omega) = .pointer (some ⟨c.PL, 0, none⟩) := at_of _ (kept_of hK 0 (by decide) u0)
          have d1 : U[1]'(by omega) = .int .i64 time := at_of _ (kept_of hK 1 (by decide) u1)
          have d4 : U[4]'(by omega) = .int .i64 q := at_of _ (kept_of hK 4 (by decide) u4)
          have d5 : U[5]'(by omega) = .pointer (some ⟨c.OU, j * 5, none⟩) := at_of _ (kept_of hK 5 (by decide) u5)
          have b37 : U[37]?.getD undef = .bool (true) := slot_of (hall 13 (by decide)) rfl
          clear hall hK u0 u1 u4 u5 f4 f5 f6 f7 f8 f9 cD
          go_upto_if 37 with fail
          refine wp_cond_at true (by simpa [Act.eval] using b37) (fun _ => ?_) (fun h => by cases h)
          go_wp2_with fail
          first | refine ⟨trivial, k - 1, by omega, ?_⟩ | refine ⟨k - 1, by omega, ?_⟩
          rw [HI.out]
          refine ⟨q + 1, by omega, by omega, by simp [hU2], by simp [hU2, d0], by simp [hU2, d1], by simp [hU2], ?_, K2.out⟩
          rw [decM_same c time got q dt hq1 (fun h => by rw [h.1] at hd; cases hd)]
          exact K1.out
      | false =>
        rw [hd] at cD
        refine region_plainW _ 61 hU [.pointer (some ⟨c.OU, j * 5, none⟩), .pointer (some ⟨c.OU, j * 5, none⟩), .pointer (some ⟨c.OU, j * 5 + 1, none⟩), .bool false, .bool false, .pointer (some ⟨c.PL, 0, none⟩), .pointer (some ⟨c.PL, 0, none⟩), .pointer (some ⟨c.PL, 4, none⟩), .agg #[.int .i64 c.last, .slice (some ⟨c.C, 0, none⟩) (c.n + 1) (c.n + 1), .slice (some ⟨c.R, 0, none⟩) (c.n + 1) (c.n + 1), .slice (some ⟨c.Lo, 0, none⟩) (c.n + 1) (c.n + 1), .slice fa0 fl fc, .slice (some ⟨c.LO, 0, none⟩) (c.n + 1) (c.n + 1)], .int .i64 q, .int .i64 time, .bool (compl c.cr q time), .bool (!compl c.cr q time), .bool (!compl c.cr q time)] (fun i w1 => if i ≤ 11 then w1 = wr else Only (fun _ => False) wr w1) wr rfl (by decide) (by decide) ?_ ?_
        · intro i hi U w1 hSt hU hK hprev
          have hi' : i < 14 := hi
          rcases (by omega : i = 0 ∨ i = 1 ∨ i = 2 ∨ i = 3 ∨ i = 4 ∨ i = 5 ∨ i = 6 ∨ i = 7 ∨ i = 8 ∨ i = 9 ∨ i = 10 ∨ i = 11 ∨ i = 12 ∨ i = 13) with rfl | rfl | rfl | rfl | rfl | rfl | rfl | rfl | rfl | rfl | rfl | rfl | rfl | rfl
          · have hw1 : w1 = wr := hSt
            subst hw1
            have hx5 : U[5]?.getD undef = .pointer (some ⟨c.OU, j * 5, none⟩) := kept_of hK 5 (by decide) (by assumption)
            refine .inl ⟨want_none rfl, ?_⟩
            refine step_of_run (v := .pointer (some ⟨c.OU, j * 5, none⟩)) (w' := _) ?_ ⟨rfl, _, rfl, (fun h => by cases h), rfl⟩
            simp [execOp, go_sem, hx5, cD, f4, f5, f6, f7, f8, f9]
          · have hw1 : w1 = wr := hSt
            subst hw1
            have d0 : U[24]?.getD undef = .pointer (some ⟨c.OU, j * 5, none⟩) := slot_of (hprev 0 (by decide)) rfl
            refine .inl ⟨want_none rfl, ?_⟩
            refine step_of_run (v := .pointer (some ⟨c.OU, j * 5, none⟩)) (w' := _) ?_ ⟨rfl, _, rfl, (fun h => by cases h), rfl⟩
            simp [execOp, go_sem, d0, cD, f4, f5, f6, f7, f8, f9]
          · have hw1 : w1 = wr := hSt
            subst hw1
            have d1 : U[25]?.getD undef = .pointer (some ⟨c.OU, j * 5, none⟩) := slot_of (hprev 1 (by decide)) rfl
            refine .inl ⟨want_none rfl, ?_⟩
            refine step_of_run (v := .pointer (some ⟨c.OU, j * 5 + 1, none⟩)) (w' := _) ?_ ⟨rfl, _, rfl, (fun h => by cases h), rfl⟩
            simp [execOp, go_sem, d1, cD, f4, f5, f6, f7, f8, f9]
          · have hw1 : w1 = wr := hSt
            subst hw1
            have d2 : U[26]?.getD undef = .pointer (some ⟨c.OU, j * 5 + 1, none⟩) := slot_of (hprev 2 (by decide)) rfl
            refine .inl ⟨want_none rfl, ?_⟩
            refine step_of_run (v := .bool false) (w' := _) ?_ ⟨rfl, _, rfl, (fun h => by cases h), rfl⟩
            simp [execOp, go_sem, d2, cD, f4, f5, f6, f7, f8, f9]
          · have hw1 : w1 = wr := hSt
            subst hw1
            have d3 : U[27]?.getD undef = .bool false := slot_of (hprev 3 (by decide)) rfl
            refine .inl ⟨want_none rfl, ?_⟩
            refine step_of_run (v := .bool false) (w' := _) ?_ ⟨rfl, _, rfl, (fun h => by cases h), rfl⟩
            simp [execOp, go_sem, d3, cD, f4, f5, f6, f7, f8, f9]
          · have hw1 : w1 = wr := hSt
            subst hw1
            have hx0 : U[0]?.getD undef = .pointer (some ⟨c.PL, 0, none⟩) := kept_of hK 0 (by decide) (by assumption)
            refine .inl ⟨want_of (d := 28) rfl rfl (by omega) (slot_of (hprev 4 (by decide)) rfl), ?_⟩
            refine step_of_run (v := .pointer (some ⟨c.PL, 0, none⟩)) (w' := _) ?_ ⟨rfl, _, rfl, (fun h => by cases h), rfl⟩
            simp [execOp, go_sem, hx0, cD, f4, f5, f6, f7, f8, f9]
          · have hw1 : w1 = wr := hSt
            subst hw1
            have d5 : U[29]?.getD undef = .pointer (some ⟨c.PL, 0, none⟩) := slot_of (hprev 5 (by decide)) rfl
            refine .inl ⟨want_of (d := 28) rfl rfl (by omega) (slot_of (hprev 4 (by decide)) rfl), ?_⟩
            refine step_of_run (v := .pointer (some ⟨c.PL, 0, none⟩)) (w' := _) ?_ ⟨rfl, _, rfl, (fun h => by cases h), rfl⟩
            simp [execOp, go_sem, d5, cD, f4, f5, f6, f7, f8, f9]
          · have hw1 : w1 = wr := hSt
            subst hw1
            have d6 : U[30]?.getD undef = .pointer (some ⟨c.PL, 0, none⟩) := slot_of (hprev 6 (by decide)) rfl
            refine .inl ⟨want_of (d := 28) rfl rfl (by omega) (slot_of (hprev 4 (by decide)) rfl), ?_⟩
            refine step_of_run (v := .pointer (some ⟨c.PL, 4, none⟩)) (w' := _) ?_ ⟨rfl, _, rfl, (fun h => by cases h), rfl⟩
            simp [execOp, go_sem, d6, cD, f4, f5, f6, f7, f8, f9]
          · have hw1 : w1 = wr := hSt
            subst hw1
            have d7 : U[31]?.getD undef = .pointer (some ⟨c.PL, 4, none⟩) := slot_of (hprev 7 (by decide)) rfl
            refine .inl ⟨want_of (d := 28) rfl rfl (by omega) (slot_of (hprev 4 (by decide)) rfl), ?_⟩
            refine step_of_run (v := .agg #[.int .i64 c.last, .slice (some ⟨c.C, 0, none⟩) (c.n + 1) (c.n + 1), .slice (some ⟨c.R, 0, none⟩) (c.n + 1) (c.n + 1), .slice (some ⟨c.Lo, 0, none⟩) (c.n + 1) (c.n + 1), .slice fa0 fl fc, .slice (some ⟨c.LO, 0, none⟩) (c.n + 1) (c.n + 1)]) (w' := _) ?_ ⟨rfl, _, rfl, (fun h => by cases h), rfl⟩
            simp [execOp, go_sem, d7, cD, f4, f5, f6, f7, f8, f9]
          · have hw1 : w1 = wr := hSt
            subst hw1
            have hx4 : U[4]?.getD undef = .int .i64 q := kept_of hK 4 (by decide) (by assumption)
            refine .inl ⟨want_of (d := 28) rfl rfl (by omega) (slot_of (hprev 4 (by decide)) rfl), ?_⟩
            refine step_of_run (v := .int .i64 q) (w' := _) ?_ ⟨rfl, _, rfl, (fun h => by cases h), rfl⟩
            simp [execOp, go_sem, hx4, cD, f4, f5, f6, f7, f8, f9]
          · have hw1 : w1 = wr := hSt
            subst hw1
            have hx1 : U[1]?.getD undef = .int .i64 time := kept_of hK 1 (by decide) (by assumption)
            refine .inl ⟨want_of (d := 28) rfl rfl (by omega) (slot_of (hprev 4 (by decide)) rfl), ?_⟩
            refine step_of_run (v := .int .i64 time) (w' := _) ?_ ⟨rfl, _, rfl, (fun h => by cases h), rfl⟩
            simp [execOp, go_sem, hx1, cD, f4, f5, f6, f7, f8, f9]
          · have hw1 : w1 = wr := hSt
            subst hw1
            have d8 : U[32]?.getD undef = .agg #[.int .i64 c.last, .slice (some ⟨c.C, 0, none⟩) (c.n + 1) (c.n + 1), .slice (some ⟨c.R, 0, none⟩) (c.n + 1) (c.n + 1), .slice (some ⟨c.Lo, 0, none⟩) (c.n + 1) (c.n + 1), .slice fa0 fl fc, .slice (some ⟨c.LO, 0, none⟩) (c.n + 1) (c.n + 1)] := slot_of (hprev 8 (by decide)) rfl
            have d9 : U[33]?.getD undef = .int .i64 q := slot_of (hprev 9 (by decide)) rfl
            have d10 : U[34]?.getD undef = .int .i64 time := slot_of (hprev 10 (by decide)) rfl
            refine .inl ⟨want_of (d := 28) rfl rfl (by omega) (slot_of (hprev 4 (by decide)) rfl), ?_⟩
            refine step_of_call (f := 24) (args := #[.agg #[.int .i64 c.last, .slice (some ⟨c.C, 0, none⟩) (c.n + 1) (c.n + 1), .slice (some ⟨c.R, 0, none⟩) (c.n + 1) (c.n + 1), .slice (some ⟨c.Lo, 0, none⟩) (c.n + 1) (c.n + 1), .slice fa0 fl fc, .slice (some ⟨c.LO, 0, none⟩) (c.n + 1) (c.n + 1)], .int .i64 q, .int .i64 time]) (w' := w1) ?_ ((completes c.last c.n c.C c.R c.Lo c.LO q time (.slice fa0 fl fc) ⟨fa0, fl, fc, rfl⟩ c.cr w1 HSR.out.cr hqn).mono ?_)
            · simp [execOp, go_sem, d8, d9, d10]
            · rintro e w9 ⟨rfl, ho⟩
              exact ⟨_, rfl, ho, _, rfl, (fun h => by cases h), rfl⟩
          · have d11 : U[35]?.getD undef = .bool (compl c.cr q time) := slot_of (hprev 11 (by decide)) rfl
            refine .inl ⟨want_of (d := 28) rfl rfl (by omega) (slot_of (hprev 4 (by decide)) rfl), ?_⟩
            refine step_of_run (v := .bool (!compl c.cr q time)) (w' := _) ?_ ⟨hSt, _, rfl, (fun h => by cases h), rfl⟩
            simp [execOp, go_sem, d11, cD, f4, f5, f6, f7, f8, f9]
          · have d4 : U[28]?.getD undef = .bool false := slot_of (hprev 4 (by decide)) rfl
            have d12 : U[36]?.getD undef = .bool (!compl c.cr q time) := slot_of (hprev 12 (by decide)) rfl
            refine .inl ⟨want_none rfl, ?_⟩
            refine step_of_run (v := .bool (!compl c.cr q time)) (w' := _) ?_ ⟨hSt, _, rfl, (fun h => by cases h), rfl⟩
            simp [execOp, go_sem, d4, d12, cD, f4, f5, f6, f7, f8, f9]
        · intro U w1 hSt hU2 hK hall
          have ho : Only (fun _ => False) wr w1 := hSt
          have HO := hidP ho
          clear ho
          have d0 : U[0]'(by omega) = .pointer (some ⟨c.PL, 0, none⟩) := at_of _ (kept_of hK 0 (by decide) u0)
          have d1 : U[1]'(by omega) = .int .i64 time := at_of _ (kept_of hK 1 (by decide) u1)
          have d4 : U[4]'(by omega) = .int .i64 q := at_of _ (kept_of hK 4 (by decide) u4)
          have d5 : U[5]'(by omega) = .pointer (some ⟨c.OU, j * 5, none⟩) := at_of _ (kept_of hK 5 (by decide) u5)
          have b37 : U[37]?.getD undef = .bool (!compl c.cr q time) := slot_of (hall 13 (by decide)) rfl
          clear hall hK u0 u1 u4 u5 f4 f5 f6 f7 f8 f9 cD
          go_upto_if 37 with fail
          refine wp_cond_at (!compl c.cr q time) (by simpa [Act.eval] using b37) (fun hc => ?_) (fun hc => ?_)
          · go_wp2_with fail
            first | refine ⟨trivial, k - 1, by omega, ?_⟩ | refine ⟨k - 1, by omega, ?_⟩
            rw [HI.out]
            refine ⟨q + 1, by omega, by omega, by simp [hU2], by simp [hU2, d0], by simp [hU2, d1], by simp [hU2], ?_, K2.out.trans' HO.out (fun _ _ h => h.elim)⟩
            rw [decM_same c time got q dt hq1 (fun h => by rw [h.2.1] at hc; cases hc)]
            exact K1.out.only HO.out (fun h => h)
          · have hcc : compl c.cr q time = true := by simpa using hc
            have hs1 : Stat c w1 := HSR.out.only HO.out (fun h => h) (fun h => h) (fun h => h)
            have hp1 : Procs c w1 got := HPR.out.only HO.out (fun _ _ _ h => h)
            have hou1 : Row w1.drew c.OU 71 (c.n * 5) (outM c.cr (decM c time got (q - 1) dt)) := (K1.out.only HO.out (fun h => h)).drew
            have HOU1 := hidP hou1
            have HP1 := hidP hp1
            have cPR : w1.cell? ⟨c.PL, 10, none⟩ = some (.slice (some ⟨c.PR, 0, none⟩) (c.n + 1) (c.n + 1)) := hs1.pl.cell 10 (by omega)
            have cAP : w1.cell? ⟨c.PR, q, none⟩ = some (.iface 64 (.pointer (some ⟨c.ap q, 0, none⟩))) := by have := hs1.pr.cell q (by omega); rwa [Cfg.procM, if_neg (by omega)] at this
            have g1 : (0 : Int) ≤ (q : Int) := by omega
            have g2 : (q : Int) < (c.n : Int) + 1 := by omega
            have hmd := methDecision
            have e1 : w1.drew.cell? ⟨c.OU, j * 5 + 1, none⟩ = some _ := hou1.cell (j * 5 + 1) (by omega)
            have e2 : w1.drew.cell? ⟨c.OU, j * 5 + 2, none⟩ = some _ := hou1.cell (j * 5 + 2) (by omega)
            have e3 : w1.drew.cell? ⟨c.OU, j * 5 + 3, none⟩ = some _ := hou1.cell (j * 5 + 3) (by omega)
            have k1 := hou1.frozen (j * 5 + 1)
            have k2 := hou1.frozen (j * 5 + 2)
            have k3 := hou1.frozen (j * 5 + 3)
            clear hs1 hp1 hou1 b37 hc
            go_upto_if 49 with (go_at_call 60; refine (decision (c.ap q) c.L q (c.dec q) (got q) w1 (HP1.out q hq1 hqn) (by omega)).mono ?_; rintro e w9 ⟨rfl, rfl⟩)
            have hog : Only (fun b => b = c.OU) w w1.drew := (K2.out.trans' HO.out (fun _ _ h => h.elim)).drew
            have HOG := hidP hog
            clear hog
            refine wp_cond_at (decide (c.dec q ≤ got q)) (by simp [Act.eval, hU2]) (fun h => ?_) (fun h => ?_)
            · have hdg : c.dec q ≤ got q := of_decide_eq_true h
              have HDG := hidP hdg
              clear h hdg
              have k1w : w1.frozen? ⟨c.OU, j * 5 + 1, none⟩ = false := k1
              have k2w : w1.frozen? ⟨c.OU, j * 5 + 2, none⟩ = false := k2
              have k3w : w1.frozen? ⟨c.OU, j * 5 + 3, none⟩ = false := k3
              have e1w : w1.cell? ⟨c.OU, j * 5 + 1, none⟩ = some _ := e1
              have e2w : w1.cell? ⟨c.OU, j * 5 + 2, none⟩ = some _ := e2
              have e3w : w1.cell? ⟨c.OU, j * 5 + 3, none⟩ = some _ := e3
              clear e1 e2 e3 k1 k2 k3
              go_wp2_with fail
              first | refine ⟨trivial, k - 1, by omega, ?_⟩ | refine ⟨k - 1, by omega, ?_⟩
              rw [HI.out]
              refine ⟨q + 1, by omega, by omega, by simp [hU2], by simp [hU2, d0], by simp [hU2, d1], by simp [hU2], ?_, ?_⟩
              · refine ((((HOU1.out.set (j * 5 + 1) _).set (j * 5 + 2) _).set (j * 5 + 3) _)).ext fun x hx => ?_
                have hnone : dt q = none := by simpa using hd
                have hn := decM_new c time got q dt hq1 ⟨hnone, hcc, HDG.out⟩
                obtain ⟨y, f, hf, rfl⟩ : ∃ y f, f < 5 ∧ x = y * 5 + f := ⟨x / 5, x % 5, by omega, by omega⟩
                rw [outM_at _ _ _ _ hf, outM_at _ _ _ _ hf]
                by_cases ey : y = j
                · subst ey
                  rw [hjj, hn]
                  rcases (by omega : f = 0 ∨ f = 1 ∨ f = 2 ∨ f = 3 ∨ f = 4) with rfl | rfl | rfl | rfl | rfl <;> simp
                · rw [decM_far c time got q (y + 1) dt (by omega)]
                  rw [if_neg (by omega), if_neg (by omega), if_neg (by omega)]
              · exact Only.setCell (Only.setCell (Only.setCell HOG.out (fun _ => rfl) _) (fun _ => rfl) _) (fun _ => rfl) _
            · have hdg : ¬ c.dec q ≤ got q := of_decide_eq_false h
              clear h
              go_wp2_with fail
              first | refine ⟨trivial, k - 1, by omega, ?_⟩ | refine ⟨k - 1, by omega, ?_⟩
              rw [HI.out]
              refine ⟨q + 1, by omega, by omega, by simp [hU2], by simp [hU2, d0], by simp [hU2, d1], by simp [hU2], ?_, HOG.out⟩
              rw [decM_same c time got q dt hq1 (fun h => hdg h.2.2)]
              exact HOU1.out
    · have hqn : q - 1 = c.n := by have := of_decide_eq_false h; omega
      clear h
      go_wp2_with fail
      refine bodyPost_end (v := .tuple #[]) (by simp [results, Yba.results27]) rfl ⟨rfl, ?_, K2.out⟩
      have := K1.out
      rwa [hqn] at this
  · rw [HI.out]
    refine ⟨1, by omega, by omega, rfl, rfl, rfl, rfl, ?_, Only.refl⟩
    have e : decM c time got (1 - 1) dt = dt := by
      funext q
      unfold decM
      rw [if_neg (by omega)]
    rw [e]
    exact HOU.out
end Go.Proofs.Ybulkcawy
