/-
  playFrom's innermost loop: what the faulty fail to deliver is taken out of the inbox.
-/
import Derived.Test.YbulkcawyPlay0
namespace Go.Proofs.Ybulkcawy
open Go.RowKit
set_option linter.unusedSimpArgs false
set_option linter.unusedVariables false
set_option maxRecDepth 100000
set_option maxHeartbeats 4000000

def dlv (c : Cfg) (p : Par) (q i r : Nat) : Bool := deliv c.cr (p.re q) (p.mm q) (p.lo q) c.n q i r
/-- The inbox behind the first j of the faulty. -/
def cutB (c : Cfg) (p : Par) (i r j : Nat) (ib : Nat → Option Int) (x : Nat) : Option Int := if (p.fl.take j).contains (x + 1) && !dlv c p (x + 1) i r then none else ib x

theorem cutB_succ (c : Cfg) (p : Par) (i r j : Nat) (hj : j < p.fl.length) (ib : Nat → Option Int) (x : Nat) : cutB c p i r (j + 1) ib x = if x + 1 = p.fl[j] ∧ dlv c p p.fl[j] i r = false then none else cutB c p i r j ib x := by
  unfold cutB
  have e : p.fl.take (j + 1) = p.fl.take j ++ [p.fl[j]] := by simp
  rw [e]
  by_cases h : x + 1 = p.fl[j]
  · rw [← h]
    cases hd : dlv c p (x + 1) i r <;> simp [hd, List.contains_eq_mem]
  · have h1 : ((p.fl.take j ++ [p.fl[j]]).contains (x + 1)) = (p.fl.take j).contains (x + 1) := by
      simp only [List.contains_eq_mem, List.mem_append, List.mem_singleton, h, or_false]
    have h2 : (if x + 1 = p.fl[j] ∧ dlv c p p.fl[j] i r = false then none else if ((p.fl.take j).contains (x + 1) && !dlv c p (x + 1) i r) = true then none else ib x) = if ((p.fl.take j).contains (x + 1) && !dlv c p (x + 1) i r) = true then none else ib x := if_neg (fun h' => h h'.1)
    rw [h1, h2]

theorem play6 (c : Cfg) (role : Nat → Nat) (p : Par) (hl : Lay c role p) (r i : Nat) (hr : 1 ≤ r) (hr' : r ≤ c.last) (hi : 1 ≤ i) (hi' : i ≤ c.n) (w : World) (hf : Fixed c role p w) (ib : Nat → Option Int) (hib : Row w c.IN 20 c.n (fun k => msgV (ib k))) (T : Array Value) (Q : Exit → Act → World → Prop) (hT0 : T.size = 153)
    (t6 : T[6]?.getD undef = .pointer (some ⟨p.F, 0, none⟩)) (t8 : T[8]?.getD undef = .slice (some ⟨c.IN, 0, none⟩) c.n c.n) (t10 : T[10]?.getD undef = .int .i64 r) (t11 : T[11]?.getD undef = .int .i64 i) (t82 : T[82]?.getD undef = c.fa) (t83 : T[83]?.getD undef = .int .i64 p.fl.length) (t84 : T[84]?.getD undef = .int .i64 0)
    (hQ : ∀ T' w', Keeps 13 152 [] T T' → Row w' c.IN 20 c.n (fun k => msgV (cutB c p i r p.fl.length ib k)) → Only (fun b => b = c.IN) w w' → Q .normal ⟨T', []⟩ w') : (blkOf Yba.f15 6).wp Yba.prog Q ⟨T, []⟩ w := by
  conv in (blkOf Yba.f15 6) => whnf
  refine wp_block ?_
  have HQ := hidP hQ
  have HL := hidP hl
  have HF := hidP hf
  have HIB := hidP hib
  have hsm := hl.ap.small
  have hsm' := hl.ap.small'
  have hfll := hl.fll
  clear hQ hl hf hib
  obtain ⟨I, hI⟩ : ∃ I : Nat → Array Value → World → Prop, I = (fun k T2 wr => ∃ j, j + k = p.fl.length ∧ Keeps 13 152 [] T T2 ∧ T2[82]?.getD undef = c.fa ∧ T2[83]?.getD undef = .int .i64 p.fl.length ∧ T2[84]?.getD undef = .int .i64 j ∧ Row wr c.IN 20 c.n (fun k => msgV (cutB c p i r j ib k)) ∧ Only (fun b => b = c.IN) w wr) := ⟨_, rfl⟩
  have HI := hidP hI
  clear hI
  refine wp_loop_n I ?_ p.fl.length _ _ ?_
  · intro k T2 wr hIk
    rw [HI.out] at hIk
    obtain ⟨j, hjk, hK, u82, u83, u84, hib, ho⟩ := hIk
    have hT : T2.size = 153 := hK.1.trans hT0
    have a6 := hK.at' hT 6 (by decide) t6 (by decide) (by decide)
    have a8 := hK.at' hT 8 (by decide) t8 (by decide) (by decide)
    have a10 := hK.at' hT 10 (by decide) t10 (by decide) (by decide)
    have a11 := hK.at' hT 11 (by decide) t11 (by decide) (by decide)
    have a82 : T2[82]'(by omega) = _ := at_of _ u82
    have a83 : T2[83]'(by omega) = _ := at_of _ u83
    have a84 : T2[84]'(by omega) = _ := at_of _ u84
    have HK := hidP hK
    have HB := hidP hib
    have HO := hidP ho
    have hl := HL.out
    have hfr : Fixed c role p wr := HF.out.only hl ho (fun b _ e => by rw [e]; exact .inr (.inr (.inr (.inl hl.ap.inb))))
    have HFR := hidP hfr
    clear hK hib ho u82 u83 u84 hl hfr
    go_upto_if 85 with fail
    refine wp_cond_at (decide (j < p.fl.length)) (by simp [Act.eval, hT]) (fun h => ?_) (fun h => ?_)
    · have hj : j < p.fl.length := of_decide_eq_true h
      clear h
      have hq := HL.out.flq p.fl[j] (List.getElem_mem hj)
      obtain ⟨q, hqe⟩ : ∃ q, q = p.fl[j] := ⟨_, rfl⟩
      rw [← hqe] at hq
      obtain ⟨b, cap, hfa, hbw, hbt, hcells⟩ : ∃ b cap, c.fa = .slice (some ⟨b, 0, none⟩) p.fl.length cap ∧ b < wr.heap.size ∧ ¬ Touch c role b ∧ ∀ k (hk : k < p.fl.length), wr.cell? ⟨b, k, none⟩ = some (.int .i64 p.fl[k]) := by
        rcases HFR.out.fa with ⟨_, h⟩ | h
        · rw [h] at hj; simp at hj
        · exact h
      have cb : wr.cell? ⟨b, j, none⟩ = some (.int .i64 q) := by rw [hqe]; exact hcells j hj
      have f0 : wr.cell? ⟨p.F, 0, none⟩ = some (.int .i64 c.last) := HFR.out.f.cell 0 (by omega)
      have f1 : wr.cell? ⟨p.F, 1, none⟩ = some (.slice (some ⟨c.C, 0, none⟩) (c.n + 1) (c.n + 1)) := HFR.out.f.cell 1 (by omega)
      have f2 : wr.cell? ⟨p.F, 2, none⟩ = some (.slice (some ⟨c.R, 0, none⟩) (c.n + 1) (c.n + 1)) := HFR.out.f.cell 2 (by omega)
      have f3 : wr.cell? ⟨p.F, 3, none⟩ = some (.slice (some ⟨c.Lo, 0, none⟩) (c.n + 1) (c.n + 1)) := HFR.out.f.cell 3 (by omega)
      have f4 : wr.cell? ⟨p.F, 4, none⟩ = some (.slice (some ⟨b, 0, none⟩) p.fl.length cap) := (HFR.out.f.cell 4 (by omega)).trans (by rw [← hfa]; rfl)
      have f5 : wr.cell? ⟨p.F, 5, none⟩ = some (.slice (some ⟨c.LO, 0, none⟩) (c.n + 1) (c.n + 1)) := HFR.out.f.cell 5 (by omega)
      rw [hfa] at a82
      have i1 : (0 : Int) ≤ (j : Int) := by omega
      have i2 : (j : Int) < (p.fl.length : Int) := by omega
      have HFA := hidP hfa
      have HQE := hidP hqe
      clear hfa hqe hcells
      refine gen_frame (fun U => U.size = 153 ∧ Keeps 13 152 [] T U ∧ U[82]?.getD undef = .slice (some ⟨b, 0, none⟩) p.fl.length cap ∧ U[83]?.getD undef = .int .i64 p.fl.length ∧ U[84]?.getD undef = .int .i64 j) ⟨by simp [hT], Keeps.put HK.out _ _ (.inr ⟨by decide, by decide⟩), by simp [hT, a82], by simp [hT, a83], by simp [hT, a84]⟩ ?_
      rintro U ⟨hU, hKU, u82, u83, u84⟩
      have b6 := hKU.at' hU 6 (by decide) t6 (by decide) (by decide)
      have b8 := hKU.at' hU 8 (by decide) t8 (by decide) (by decide)
      have b10 := hKU.at' hU 10 (by decide) t10 (by decide) (by decide)
      have b11 := hKU.at' hU 11 (by decide) t11 (by decide) (by decide)
      have b82 : U[82]'(by omega) = _ := at_of _ u82
      have b83 : U[83]'(by omega) = _ := at_of _ u83
      have b84 : U[84]'(by omega) = _ := at_of _ u84
      have HKU := hidP hKU
      clear hKU u82 u83 u84 a6 a8 a10 a11 a82 a83 a84 hT
      go_upto_if 93 with (go_at_call 25; refine (delivers c.last c.n c.C c.R c.Lo c.LO q i r (p.mm q) 0 (.slice (some ⟨b, 0, none⟩) p.fl.length cap) ⟨_, _, _, rfl⟩ c.cr c.reV c.loV (p.re q) (p.lo q) wr HFR.out.st.cr HFR.out.R HFR.out.Lo (HFR.out.los q hq.1 hq.2).toS (fun h => (HFR.out.res q hq.1 hq.2 (by omega)).toS) hq.2 (by omega) hr (by omega) (by omega) (HL.out.mmb q)).mono ?_; rintro e w2 ⟨rfl, ho⟩)
      have ho2 : ∃ wz, Only (fun _ => False) wr wz ∧ wz = w2 := ⟨w2, ho, rfl⟩
      obtain ⟨wz, hoz, rfl⟩ := ho2
      have HOZ := hidP (HO.out.trans' hoz (fun _ _ h => h.elim))
      have hbz := HB.out.only hoz (fun h => h)
      have HBZ := hidP hbz
      clear ho hoz f0 f1 f2 f3 f4 f5 cb
      obtain ⟨D, hD⟩ : ∃ D, deliv c.cr (p.re q) (p.mm q) (p.lo q) c.n q i r = D := ⟨_, rfl⟩
      rw [hD]
      have HD := hidP hD
      clear hD
      obtain ⟨q1, hq1⟩ : ∃ q1, q1 = q - 1 := ⟨_, rfl⟩
      have hqI : (q : Int) - 1 = (q1 : Int) := by omega
      have j1 : (0 : Int) ≤ (q1 : Int) := by omega
      have j2 : (q1 : Int) < (c.n : Int) := by omega
      have cI := hbz.cell q1 (by omega)
      have fI := hbz.frozen q1
      have HQ1 := hidP hq1
      clear hbz hq1
      refine wp_cond_at (!D) (by simp [Act.eval, hU]) (fun hd => ?_) (fun hd => ?_)
      · refine gen_frame (fun V => V.size = 153 ∧ Keeps 13 152 [] T V ∧ V[13]?.getD undef = .int .i64 q ∧ V[82]?.getD undef = .slice (some ⟨b, 0, none⟩) p.fl.length cap ∧ V[83]?.getD undef = .int .i64 p.fl.length ∧ V[84]?.getD undef = .int .i64 j) ⟨by simp [hU], ?_, by simp [hU], by simp [hU, b82], by simp [hU, b83], by simp [hU, b84]⟩ ?_
        · repeat (refine Keeps.put ?_ _ _ (.inr ⟨by decide, by decide⟩))
          exact HKU.out
        rintro V ⟨hV, hKV, v13, v82, v83, v84⟩
        have d8 := hKV.at' hV 8 (by decide) t8 (by decide) (by decide)
        have d13 : V[13]'(by omega) = _ := at_of _ v13
        have d82 : V[82]'(by omega) = _ := at_of _ v82
        have d83 : V[83]'(by omega) = _ := at_of _ v83
        have d84 : V[84]'(by omega) = _ := at_of _ v84
        have HKV := hidP hKV
        clear hKV v13 v82 v83 v84 b6 b8 b10 b11 b82 b83 b84
        go_wp2_with fail
        first | refine ⟨trivial, k - 1, by omega, ?_⟩ | refine ⟨k - 1, by omega, ?_⟩
        rw [HI.out]
        refine ⟨j + 1, by omega, ?_, by simp [hV, d82, HFA.out], by simp [hV, d83], by simp [hV], ?_, ?_⟩
        · repeat (refine Keeps.put ?_ _ _ (.inr ⟨by decide, by decide⟩))
          exact HKV.out
        · refine (HBZ.out.set q1 _).ext fun x hx => ?_
          rw [cutB_succ c p i r j hj, ← HQE.out]
          have hq1' := HQ1.out
          by_cases e : x = q1
          · rw [if_pos e, if_pos ⟨by omega, by unfold dlv; rw [HD.out]; simpa using hd⟩]
            rfl
          · rw [if_neg e, if_neg (fun h => e (by omega))]
        · exact Only.setCell HOZ.out (fun _ => rfl) _
      · refine gen_frame (fun V => V.size = 153 ∧ Keeps 13 152 [] T V ∧ V[82]?.getD undef = .slice (some ⟨b, 0, none⟩) p.fl.length cap ∧ V[83]?.getD undef = .int .i64 p.fl.length ∧ V[84]?.getD undef = .int .i64 j) ⟨by simp [hU], ?_, by simp [hU, b82], by simp [hU, b83], by simp [hU, b84]⟩ ?_
        · repeat (refine Keeps.put ?_ _ _ (.inr ⟨by decide, by decide⟩))
          exact HKU.out
        rintro V ⟨hV, hKV, v82, v83, v84⟩
        have d82 : V[82]'(by omega) = _ := at_of _ v82
        have d83 : V[83]'(by omega) = _ := at_of _ v83
        have d84 : V[84]'(by omega) = _ := at_of _ v84
        have HKV := hidP hKV
        clear hKV v82 v83 v84 b6 b8 b10 b11 b82 b83 b84
        go_wp2_with fail
        first | refine ⟨trivial, k - 1, by omega, ?_⟩ | refine ⟨k - 1, by omega, ?_⟩
        rw [HI.out]
        refine ⟨j + 1, by omega, ?_, by simp [hV, d82, HFA.out], by simp [hV, d83], by simp [hV], ?_, HOZ.out⟩
        · repeat (refine Keeps.put ?_ _ _ (.inr ⟨by decide, by decide⟩))
          exact HKV.out
        · refine HBZ.out.ext fun x hx => ?_
          rw [cutB_succ c p i r j hj, ← HQE.out, if_neg]
          rintro ⟨_, h⟩
          unfold dlv at h
          rw [HD.out] at h
          rw [h] at hd
          cases hd
    · have hj : j = p.fl.length := by have := of_decide_eq_false h; omega
      clear h
      go_wp2_with fail
      subst hj
      refine HQ.out _ _ ?_ HB.out HO.out
      repeat (refine Keeps.put ?_ _ _ (.inr ⟨by decide, by decide⟩))
      exact HK.out
  · rw [HI.out]
    refine ⟨0, by omega, Keeps.refl, t82, t83, t84, ?_, Only.refl⟩
    exact HIB.out.ext fun x hx => by simp [cutB]
end Go.Proofs.Ybulkcawy
