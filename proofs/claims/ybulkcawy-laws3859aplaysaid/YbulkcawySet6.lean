/-
  set's loop over the omissions that marks what is lost.
-/
import Derived.Test.YbulkcawySet4
namespace Go.Proofs.Ybulkcawy
open Go.RowKit
set_option linter.unusedSimpArgs false
set_option linter.unusedVariables false
set_option maxRecDepth 100000
set_option maxHeartbeats 4000000

def hasF (ol : List Fail) (q : Nat) : Bool := ol.any (fun o => decide (o.q = q))
def loF (d : SB) (ol : List Fail) (q x : Nat) : Bool := ol.any (fun o => decide (o.q = q) && (o.xs.map (lostX d.n o.r)).contains x)
def mmF (d : SB) (ol : List Fail) (q : Nat) : Nat := if hasF ol q then lovF d.ol q * (d.n + 1) else 0

theorem hasF_succ (ol : List Fail) (j : Nat) (hj : j < ol.length) (q : Nat) : hasF (ol.take (j + 1)) q = (hasF (ol.take j) q || decide (ol[j].q = q)) := by
  have e : ol.take (j + 1) = ol.take j ++ [ol[j]] := by simp
  unfold hasF
  rw [e, List.any_append]
  simp
theorem loF_succ (d : SB) (j : Nat) (hj : j < d.ol.length) (q x : Nat) : loF d (d.ol.take (j + 1)) q x = if d.ol[j].q = q then (loF d (d.ol.take j) q x || (d.ol[j].xs.map (lostX d.n d.ol[j].r)).contains x) else loF d (d.ol.take j) q x := by
  have e : d.ol.take (j + 1) = d.ol.take j ++ [d.ol[j]] := by simp
  unfold loF
  rw [e, List.any_append]
  by_cases h : d.ol[j].q = q
  · simp [h]
  · simp [h]
theorem loF_none (d : SB) (ol : List Fail) (q : Nat) (h : hasF ol q = false) : loF d ol q = fun _ => false := by
  funext x
  unfold loF
  unfold hasF at h
  rw [List.any_eq_false] at h ⊢
  intro o ho
  have := h o ho
  simp only [decide_eq_true_eq] at this
  simp [this]

theorem set6 (d : SB) (role : Nat → Nat) (ok : SBok d role) (fav0 : Value) (fl0 : List Nat) (cr : Nat → Nat) (reV : Nat → Value) (re : Nat → Nat → Bool) (w : World) (hps : PS d w fav0 fl0 cr reV re (fun _ => .slice none 0 0) (lovF d.ol) (fun _ => 0) (fun _ _ => false)) (hfe0 : fl0 = [] → fav0 = .slice none 0 0) (hfl0 : fl0.length ≤ 1000) (hflq : ∀ q ∈ fl0, 1 ≤ q ∧ q ≤ d.n) (T : Array Value) (Q : Exit → Act → World → Prop) (hT0 : T.size = 236)
    (t0 : T[0]?.getD undef = .pointer (some ⟨d.P, d.o, none⟩)) (t11 : T[11]?.getD undef = .int .i64 ((d.n : Int) + 1)) (t155 : T[155]?.getD undef = d.ov) (t156 : T[156]?.getD undef = .int .i64 d.ol.length) (t157 : T[157]?.getD undef = .int .i64 0)
    (hQ : ∀ T' w' fav fl loV, Keeps 12 235 [] T T' → PS d w' fav fl cr reV re loV (lovF d.ol) (mmF d d.ol) (loF d d.ol) → (∀ q, q ∈ fl ↔ q ∈ fl0 ∨ (cr q = 0 ∧ hasF d.ol q = true)) → fl.length ≤ 2000 → (∀ q ∈ fl, 1 ≤ q ∧ q ≤ d.n) → (∀ q, q ≤ d.n → (hasF d.ol q = false ↔ loV q = .slice none 0 0)) → (fl = [] → fav = .slice none 0 0) → Only (SetS d) w w' → Q .normal ⟨T', []⟩ w') : (blkOf Yba.f23 6).wp Yba.prog Q ⟨T, []⟩ w := by
  conv in (blkOf Yba.f23 6) => whnf
  refine wp_block ?_
  have HQ := hidP hQ
  have OK := hidP ok
  have HPS0 := hidP hps
  have HFL0 := hidP hflq
  have hn6 := ok.n6
  have hl5 := ok.l5
  have hcln := ok.oln
  clear hQ ok hps hflq
  obtain ⟨I, hI⟩ : ∃ I : Nat → Array Value → World → Prop, I = (fun k T2 wr => ∃ j, j + k = d.ol.length ∧ Keeps 12 235 [] T T2 ∧ T2[155]?.getD undef = d.ov ∧ T2[156]?.getD undef = .int .i64 d.ol.length ∧ T2[157]?.getD undef = .int .i64 j ∧ ∃ fav fl loV, PS d wr fav fl cr reV re loV (lovF d.ol) (mmF d (d.ol.take j)) (loF d (d.ol.take j)) ∧ (∀ q, q ≤ d.n → (hasF (d.ol.take j) q = false ↔ loV q = .slice none 0 0)) ∧ (fl = [] → fav = .slice none 0 0) ∧ (∀ q, q ∈ fl ↔ q ∈ fl0 ∨ (cr q = 0 ∧ hasF (d.ol.take j) q = true)) ∧ fl.length ≤ 1000 + j ∧ (∀ q ∈ fl, 1 ≤ q ∧ q ≤ d.n) ∧ Only (SetS d) w wr) := ⟨_, rfl⟩
  have HI := hidP hI
  clear hI
  refine wp_loop_n I ?_ d.ol.length _ _ ?_
  · intro k T2 wr hIk
    rw [HI.out] at hIk
    obtain ⟨j, hjk, hK, u34, u35, u36, fav, fl, loV, hps, hnil, hfe, hmem, hfll, hflq, ho⟩ := hIk
    have hT : T2.size = 236 := hK.1.trans hT0
    have a34 : T2[155]'(by omega) = _ := at_of _ u34
    have a35 : T2[156]'(by omega) = _ := at_of _ u35
    have a36 : T2[157]'(by omega) = _ := at_of _ u36
    have HK := hidP hK
    have HPS := hidP hps
    have HNIL := hidP hnil
    have HFE := hidP hfe
    have HMEM := hidP hmem
    have HFLQ := hidP hflq
    have HO := hidP ho
    clear hK u34 u35 u36 hps hnil hfe hmem hflq ho
    go_upto_if 158 with fail
    refine wp_cond_at (decide (j < d.ol.length)) (by simp [Act.eval, hT]) (fun h => ?_) (fun h => ?_)
    · have hj : j < d.ol.length := of_decide_eq_true h
      clear h
      obtain ⟨c, hce⟩ : ∃ c, c = d.ol[j] := ⟨_, rfl⟩
      obtain ⟨B, cap, e1, e2, e3, e4, e5, ta, tc, e6, e7⟩ := HPS.out.os.some hj
      rw [← hce] at e4 e5 e6 e7
      have hcm : c ∈ d.ol := by rw [hce]; exact List.getElem_mem hj
      obtain ⟨hq1, hqn, hr1, hrl, hxl, hxi⟩ := OK.out.olq c hcm
      have hrlv := lovF_ge d.ol c hcm
      have hlvl := lovF_le d.ol c.q d.last (fun o ho => (OK.out.olq o ho).2.2.2.1)
      obtain ⟨M, hMe⟩ : ∃ M, M = lovF d.ol c.q * (d.n + 1) := ⟨_, rfl⟩
      have hM1 : 1 ≤ M := by rw [hMe]; exact Nat.mul_pos (by omega) (by omega)
      have hM2 : M ≤ 5 * 7 := by rw [hMe]; exact Nat.mul_le_mul (by omega) (by omega)
      have hxm : ∀ i ∈ c.xs, i ≤ d.n ∧ lostX d.n c.r i < M := fun i hi => by
        have h1 := hxi i hi
        refine ⟨h1.2, ?_⟩
        unfold lostX
        rw [hMe]
        have h2 : (c.r - 1 + 1) * (d.n + 1) ≤ lovF d.ol c.q * (d.n + 1) := Nat.mul_le_mul_right _ (by omega)
        rw [Nat.add_mul] at h2
        omega
      rw [e1] at a34
      have i0a : (0 : Int) ≤ (j : Int) := by omega
      have i0b : (j : Int) < (d.ol.length : Int) := by omega
      have HCE := hidP hce
      have HE1 := hidP e1
      have HE7 := hidP e7
      have HXM := hidP hxm
      have HME := hidP hMe
      refine gen_frame (fun U => U.size = 236 ∧ Keeps 12 235 [] T U ∧ U[155]?.getD undef = .slice (some ⟨B, 0, none⟩) d.ol.length cap ∧ U[156]?.getD undef = .int .i64 d.ol.length ∧ U[157]?.getD undef = .int .i64 j) ⟨by simp [hT], ?_, by simp [hT, a34], by simp [hT, a35], by simp [hT, a36]⟩ ?_
      · repeat (refine Keeps.put ?_ _ _ (by first | exact .inr ⟨by decide, by decide⟩ | exact .inl (by decide)))
        exact HK.out
      rintro U ⟨hU, hKU, u34, u35, u36⟩
      have b34 : U[155]'(by omega) = _ := at_of _ u34
      have b35 : U[156]'(by omega) = _ := at_of _ u35
      have b36 : U[157]'(by omega) = _ := at_of _ u36
      have HKU := hidP hKU
      clear hKU u34 u35 u36 a34 a35 a36 hT hce e1 e7 hxi hxm hMe
      obtain ⟨cb, hcb⟩ : ∃ cb, cb = wr.heap.size := ⟨_, rfl⟩
      have HCB := hidP hcb
      go_upto_region 31 with fail
      have hrow : Row (wr.alloc (.cells #[.int .i64 c.q, .int .i64 c.r, .slice ta c.xs.length tc] 36)) wr.heap.size 36 3 (fun k => if k = 0 then .int .i64 c.q else if k = 1 then .int .i64 c.r else .slice ta c.xs.length tc) := by
        refine (Row.newL wr [.int .i64 c.q, .int .i64 c.r, .slice ta c.xs.length tc] 36).ext fun x hx => ?_
        have hx' : x < 3 := hx
        rcases (by omega : x = 0 ∨ x = 1 ∨ x = 2) with rfl | rfl | rfl <;> simp
      have hon : Only (fun _ => False) wr (wr.alloc (.cells #[.int .i64 c.q, .int .i64 c.r, .slice ta c.xs.length tc] 36)) := Only.refl.alloc _
      refine gen_both (fun U w' => U.size = 236 ∧ Keeps 12 235 [] T U ∧ U[13]?.getD undef = .pointer (some ⟨wr.heap.size, 0, none⟩) ∧ U[155]?.getD undef = .slice (some ⟨B, 0, none⟩) d.ol.length cap ∧ U[156]?.getD undef = .int .i64 d.ol.length ∧ U[157]?.getD undef = .int .i64 j ∧ Row w' wr.heap.size 36 3 (fun k => if k = 0 then .int .i64 c.q else if k = 1 then .int .i64 c.r else .slice ta c.xs.length tc) ∧ Only (fun _ => False) wr w') ⟨by simp [hU], ?_, by simp [hU], by simp [hU, b34], by simp [hU, b35], by simp [hU, b36], hrow, hon⟩ ?_
      · repeat (refine Keeps.put ?_ _ _ (by first | exact .inr ⟨by decide, by decide⟩ | exact .inl (by decide)))
        exact HKU.out
      clear hrow hon b34 b35 b36 HKU hU
      clear U
      rintro U w1a ⟨hU, hKU, u13, u34, u35, u36, hrow, hon⟩
      have hcb' := HCB.out
      rw [← hcb'] at u13 hrow
      have hps1 := HPS.out.same OK.out hon
      have HPS1 := hidP hps1
      have HROW := hidP hrow
      have HON := hidP hon
      have HKU := hidP hKU
      have u0 := hKU.get t0 (by decide) (by decide)
      have cR1 : w1a.cell? ⟨cb, 1, none⟩ = some (.int .i64 c.r) := hrow.cell 1 (by omega)
      have cP0 : w1a.cell? ⟨d.P, d.o, none⟩ = some (.int .i64 d.last) := by have := hps1.P.cell d.o (by have := OK.out.o5; omega); rwa [if_neg (by omega), OK.out.m0] at this
      have hcmp : ¬ d.last < c.r := by omega
      clear hKU hps1 hrow hon hcb hcb' e4 e5 e6 i0a i0b
      refine region_chain (by kernel_rfl) _ 236 hU [some (.pointer (some ⟨cb, 1, none⟩)), some (.int .i64 c.r), some (.pointer (some ⟨d.P, d.o, none⟩)), some (.pointer (some ⟨d.P, d.o, none⟩)), some (.pointer (some ⟨d.P, d.o, none⟩)), some (.int .i64 d.last), some (.bool false)] [] (fun _ w1 => w1 = w1a.drew) (by decide) (by decide) (by decide) (by decide) (by decide) (by decide) ?_ ?_ ?_ rfl
      · intro i hi U vs w1 hia hU hK hSt hanc hdep
        have hw1 : w1 = w1a.drew := hSt
        subst hw1
        have q1 : w1a.drew.cell? ⟨cb, 1, none⟩ = some (.int .i64 c.r) := cR1
        have q2 : w1a.drew.cell? ⟨d.P, d.o, none⟩ = some (.int .i64 d.last) := cP0
        have hi' : i < 7 := hi
        rcases (by omega : i = 0 ∨ i = 1 ∨ i = 2 ∨ i = 3 ∨ i = 4 ∨ i = 5 ∨ i = 6) with rfl | rfl | rfl | rfl | rfl | rfl | rfl
        · have hx5 : U[13]?.getD undef = .pointer (some ⟨cb, 0, none⟩) := kept_of hK 13 (by decide) (by assumption)
          refine step_of_run (v := .pointer (some ⟨cb, 1, none⟩)) (w' := _) ?_ ⟨rfl, _, rfl, (fun h => by cases h), rfl⟩
          simp [execOp, go_sem, hx5, q1, q2, hcmp]
        · have d0 : U[161]?.getD undef = .pointer (some ⟨cb, 1, none⟩) := slot_of (chain_of (hdep ⟨0, .data⟩ (by simp) rfl (by decide)) rfl) rfl
          refine step_of_run (v := .int .i64 c.r) (w' := _) ?_ ⟨rfl, _, rfl, (fun h => by cases h), rfl⟩
          simp [execOp, go_sem, d0, q1, q2, hcmp]
        · have hx0 : U[0]?.getD undef = .pointer (some ⟨d.P, d.o, none⟩) := kept_of hK 0 (by decide) (by assumption)
          refine step_of_run (v := .pointer (some ⟨d.P, d.o, none⟩)) (w' := _) ?_ ⟨rfl, _, rfl, (fun h => by cases h), rfl⟩
          simp [execOp, go_sem, hx0, q1, q2, hcmp]
        · have d2 : U[163]?.getD undef = .pointer (some ⟨d.P, d.o, none⟩) := slot_of (chain_of (hdep ⟨2, .data⟩ (by simp) rfl (by decide)) rfl) rfl
          refine step_of_run (v := .pointer (some ⟨d.P, d.o, none⟩)) (w' := _) ?_ ⟨rfl, _, rfl, (fun h => by cases h), rfl⟩
          simp [execOp, go_sem, d2, q1, q2, hcmp]
        · have d3 : U[164]?.getD undef = .pointer (some ⟨d.P, d.o, none⟩) := slot_of (chain_of (hdep ⟨3, .data⟩ (by simp) rfl (by decide)) rfl) rfl
          refine step_of_run (v := .pointer (some ⟨d.P, d.o, none⟩)) (w' := _) ?_ ⟨rfl, _, rfl, (fun h => by cases h), rfl⟩
          simp [execOp, go_sem, d3, q1, q2, hcmp]
        · have d4 : U[165]?.getD undef = .pointer (some ⟨d.P, d.o, none⟩) := slot_of (chain_of (hdep ⟨4, .data⟩ (by simp) rfl (by decide)) rfl) rfl
          refine step_of_run (v := .int .i64 d.last) (w' := _) ?_ ⟨rfl, _, rfl, (fun h => by cases h), rfl⟩
          simp [execOp, go_sem, d4, q1, q2, hcmp]
        · have d1 : U[162]?.getD undef = .int .i64 c.r := slot_of (chain_of (hdep ⟨1, .data⟩ (by simp) rfl (by decide)) rfl) rfl
          have d5 : U[166]?.getD undef = .int .i64 d.last := slot_of (chain_of (hdep ⟨5, .data⟩ (by simp) rfl (by decide)) rfl) rfl
          refine step_of_run (v := .bool false) (w' := _) ?_ ⟨rfl, _, rfl, (fun h => by cases h), rfl⟩
          simp [execOp, go_sem, d1, d5, q1, q2, hcmp]
      · intro j hj hi U vs w1 hlen hU hK hSt hdep hprev
        have hj' : j < 0 := hj
        omega
      · intro V vs w2 hV hKV hlen2 hSt hval hall
        have hw2 : w2 = w1a.drew := hSt
        have b167 : V[167]?.getD undef = .bool false := slot_of (chain_of (hall 6 (by decide) (by decide)) rfl) rfl
        have hKV2 := Keeps.trans HKU.out (Kept.keeps (lo := 12) (hi := 235) (vs := []) hKV (hV.trans hU.symm) (by decide))
        have v13 : V[13]'(by omega) = .pointer (some ⟨cb, 0, none⟩) := at_of _ (kept_of hKV 13 (by decide) u13)
        have v34 : V[155]'(by omega) = .slice (some ⟨B, 0, none⟩) d.ol.length cap := at_of _ (kept_of hKV 155 (by decide) u34)
        have v35 : V[156]'(by omega) = .int .i64 d.ol.length := at_of _ (kept_of hKV 156 (by decide) u35)
        have v36 : V[157]'(by omega) = .int .i64 j := at_of _ (kept_of hKV 157 (by decide) u36)
        have v0 := hKV2.at' hV 0 (by decide) t0 (by decide) (by decide)
        have hod : Only (fun _ => False) w1a w2 := by rw [hw2]; exact Only.refl.drew
        have hps2 := HPS1.out.same OK.out hod
        have HPS2 := hidP hps2
        have HROW2 := hidP (HROW.out.only hod (fun h => h))
        have HR2 : Hid (Only (SetS d) wr w2) := hidP ((HON.out.trans hod).mono (fun _ _ h => h.elim))
        have HKV := hidP hKV2
        have hz2 : wr.heap.size < w2.heap.size := by have := HROW2.out.lt; have := HCB.out; omega
        have cR0 : w2.cell? ⟨cb, 0, none⟩ = some (.int .i64 c.q) := HROW2.out.cell 0 (by omega)
        have cP3 : w2.cell? ⟨d.P, d.o + 3, none⟩ = some (.slice (some ⟨d.Lo, 0, none⟩) (d.n + 1) (d.n + 1)) := by have := hps2.P.cell (d.o + 3) (by have := OK.out.o5; omega); rwa [if_neg (by omega), OK.out.m3] at this
        have cL := hps2.Lo.cell c.q (by omega)
        have i1 : (0 : Int) ≤ (c.q : Int) := by omega
        have i2 : (c.q : Int) < (d.n : Int) + 1 := by omega
        clear hKV hSt hval hall hKV2 u0 u13 u34 u35 u36 cR1 cP0 hod hw2 hcmp hps2
        go_upto_if 167 with fail
        refine wp_cond_at false (by simpa [Act.eval] using b167) (fun h => by cases h) (fun _ => ?_)
        cases hh : hasF (d.ol.take j) c.q with
        | false =>
          rw [(HNIL.out c.q hqn).1 hh] at cL
          have heq := sliceEq92
          go_upto_if 177 with fail
          refine wp_cond_at true (by simp [Act.eval, hV]) (fun _ => ?_) (fun h => by cases h)
          refine gen_frame (fun V => V.size = 236 ∧ Keeps 12 235 [] T V ∧ V[13]?.getD undef = .pointer (some ⟨cb, 0, none⟩) ∧ V[14]?.getD undef = .int .i64 c.q ∧ V[155]?.getD undef = .slice (some ⟨B, 0, none⟩) d.ol.length cap ∧ V[156]?.getD undef = .int .i64 d.ol.length ∧ V[157]?.getD undef = .int .i64 j) ⟨by simp [hV], ?_, by simp [hV, v13], by simp [hV], by simp [hV, v34], by simp [hV, v35], by simp [hV, v36]⟩ ?_
          · repeat (refine Keeps.put ?_ _ _ (by first | exact .inr ⟨by decide, by decide⟩ | exact .inl (by decide)))
            exact HKV.out
          clear v0 v13 v34 v35 v36 HKV cR0 cP3 cL b167 hV heq
          clear V
          rintro W ⟨hW, hKW, w13, w14, w34, w35, w36⟩
          have w0 := hKW.get t0 (by decide) (by decide)
          have w11 := hKW.get t11 (by decide) (by decide)
          have HKW := hidP hKW
          have mk1 := fun w => makeBools M (by omega) w
          have hMM : (lovF d.ol c.q : Int) * ((d.n : Int) + 1) = (M : Int) := by rw [HME.out]; push_cast; rfl
          have wrM : IntKind.i64.wrap (M : Int) = (M : Int) := by rw [IntKind.wrap_i64]; omega
          clear hKW
          go_upto_region 34 with fail
          refine region_chain (by kernel_rfl) _ 236 hW [some (.pointer (some ⟨d.P, d.o, none⟩)), some (.pointer (some ⟨d.P, d.o, none⟩)), some (.pointer (some ⟨d.P, d.o + 3, none⟩)), some (.slice (some ⟨d.Lo, 0, none⟩) (d.n + 1) (d.n + 1)), some (.int .i64 c.q), some (.pointer (some ⟨d.P, d.o, none⟩)), some (.pointer (some ⟨d.P, d.o, none⟩)), some (.pointer (some ⟨d.P, d.o + 5, none⟩)), some (.slice (some ⟨d.LO, 0, none⟩) (d.n + 1) (d.n + 1)), some (.int .i64 c.q), some (.pointer (some ⟨d.LO, c.q, none⟩)), some (.int .i64 (lovF d.ol c.q)), some (.int .i64 ((d.n : Int) + 1)), some (.int .i64 M), none, none, none] [14, 15, 16] (fun vs w1 => match vs with | [] => w1 = w2.drew | [v] => v = .slice (some ⟨w2.heap.size, 0, none⟩) M M ∧ w1 = w2.drew.alloc (.cells (madeCells #[.bool false] M) 4) | [v, u] => v = .slice (some ⟨w2.heap.size, 0, none⟩) M M ∧ u = .pointer (some ⟨d.Lo, c.q, none⟩) ∧ w1 = w2.drew.alloc (.cells (madeCells #[.bool false] M) 4) | _ => w1 = (w2.drew.alloc (.cells (madeCells #[.bool false] M) 4)).setCell ⟨d.Lo, c.q, none⟩ (.slice (some ⟨w2.heap.size, 0, none⟩) M M)) (by decide) (by decide) (by decide) (by decide) (by decide) (by decide) ?_ ?_ ?_ rfl
          · intro i hi U vs w1 hia hU hK hSt hanc hdep
            have hi' : i < 17 := hi
            rcases (by omega : i = 0 ∨ i = 1 ∨ i = 2 ∨ i = 3 ∨ i = 4 ∨ i = 5 ∨ i = 6 ∨ i = 7 ∨ i = 8 ∨ i = 9 ∨ i = 10 ∨ i = 11 ∨ i = 12 ∨ i = 13 ∨ i = 14 ∨ i = 15 ∨ i = 16) with rfl | rfl | rfl | rfl | rfl | rfl | rfl | rfl | rfl | rfl | rfl | rfl | rfl | rfl | rfl | rfl | rfl
            · have hvl := hanc 2 (by decide) (by decide)
              have hr1 : Row w1 d.P d.tP d.NP (fun k => if k = d.o + 4 then fav else d.mP k) := by
                match vs, hSt, hvl with
                | [], h, _ => exact (show w1 = w2.drew from h) ▸ HPS2.out.P.drew
                | [v], h, _ => exact h.2 ▸ HPS2.out.P.drew.alloc _
                | [v, u], h, _ => exact h.2.2 ▸ HPS2.out.P.drew.alloc _
              have hr2 : Row w1 d.LO 3 (d.n + 1) (fun k => .int .i64 (lovF d.ol k)) := by
                match vs, hSt, hvl with
                | [], h, _ => exact (show w1 = w2.drew from h) ▸ HPS2.out.LO.drew
                | [v], h, _ => exact h.2 ▸ HPS2.out.LO.drew.alloc _
                | [v, u], h, _ => exact h.2.2 ▸ HPS2.out.LO.drew.alloc _
              have q1 : w1.cell? ⟨d.P, d.o + 3, none⟩ = some (.slice (some ⟨d.Lo, 0, none⟩) (d.n + 1) (d.n + 1)) := by have := hr1.cell (d.o + 3) (by have := OK.out.o5; omega); rwa [if_neg (by omega), OK.out.m3] at this
              have q2 : w1.cell? ⟨d.P, d.o + 5, none⟩ = some (.slice (some ⟨d.LO, 0, none⟩) (d.n + 1) (d.n + 1)) := by have := hr1.cell (d.o + 5) (by have := OK.out.o5; omega); rwa [if_neg (by omega), OK.out.m5] at this
              have q3 : w1.cell? ⟨d.LO, c.q, none⟩ = some (.int .i64 (lovF d.ol c.q)) := hr2.cell c.q (by omega)
              have hx0 : U[0]?.getD undef = .pointer (some ⟨d.P, d.o, none⟩) := kept_of hK 0 (by decide) (by assumption)
              refine step_of_run (v := .pointer (some ⟨d.P, d.o, none⟩)) (w' := _) ?_ ⟨rfl, _, rfl, (fun h => by cases h), rfl⟩
              simp [execOp, go_sem, hx0, q1, q2, q3, i1, i2, hMM, wrM]
            · have hvl := hanc 2 (by decide) (by decide)
              have hr1 : Row w1 d.P d.tP d.NP (fun k => if k = d.o + 4 then fav else d.mP k) := by
                match vs, hSt, hvl with
                | [], h, _ => exact (show w1 = w2.drew from h) ▸ HPS2.out.P.drew
                | [v], h, _ => exact h.2 ▸ HPS2.out.P.drew.alloc _
                | [v, u], h, _ => exact h.2.2 ▸ HPS2.out.P.drew.alloc _
              have hr2 : Row w1 d.LO 3 (d.n + 1) (fun k => .int .i64 (lovF d.ol k)) := by
                match vs, hSt, hvl with
                | [], h, _ => exact (show w1 = w2.drew from h) ▸ HPS2.out.LO.drew
                | [v], h, _ => exact h.2 ▸ HPS2.out.LO.drew.alloc _
                | [v, u], h, _ => exact h.2.2 ▸ HPS2.out.LO.drew.alloc _
              have q1 : w1.cell? ⟨d.P, d.o + 3, none⟩ = some (.slice (some ⟨d.Lo, 0, none⟩) (d.n + 1) (d.n + 1)) := by have := hr1.cell (d.o + 3) (by have := OK.out.o5; omega); rwa [if_neg (by omega), OK.out.m3] at this
              have q2 : w1.cell? ⟨d.P, d.o + 5, none⟩ = some (.slice (some ⟨d.LO, 0, none⟩) (d.n + 1) (d.n + 1)) := by have := hr1.cell (d.o + 5) (by have := OK.out.o5; omega); rwa [if_neg (by omega), OK.out.m5] at this
              have q3 : w1.cell? ⟨d.LO, c.q, none⟩ = some (.int .i64 (lovF d.ol c.q)) := hr2.cell c.q (by omega)
              have d0 : U[178]?.getD undef = .pointer (some ⟨d.P, d.o, none⟩) := slot_of (chain_of (hdep ⟨0, .data⟩ (by simp) rfl (by decide)) rfl) rfl
              refine step_of_run (v := .pointer (some ⟨d.P, d.o, none⟩)) (w' := _) ?_ ⟨rfl, _, rfl, (fun h => by cases h), rfl⟩
              simp [execOp, go_sem, d0, q1, q2, q3, i1, i2, hMM, wrM]
            · have hvl := hanc 2 (by decide) (by decide)
              have hr1 : Row w1 d.P d.tP d.NP (fun k => if k = d.o + 4 then fav else d.mP k) := by
                match vs, hSt, hvl with
                | [], h, _ => exact (show w1 = w2.drew from h) ▸ HPS2.out.P.drew
                | [v], h, _ => exact h.2 ▸ HPS2.out.P.drew.alloc _
                | [v, u], h, _ => exact h.2.2 ▸ HPS2.out.P.drew.alloc _
              have hr2 : Row w1 d.LO 3 (d.n + 1) (fun k => .int .i64 (lovF d.ol k)) := by
                match vs, hSt, hvl with
                | [], h, _ => exact (show w1 = w2.drew from h) ▸ HPS2.out.LO.drew
                | [v], h, _ => exact h.2 ▸ HPS2.out.LO.drew.alloc _
                | [v, u], h, _ => exact h.2.2 ▸ HPS2.out.LO.drew.alloc _
              have q1 : w1.cell? ⟨d.P, d.o + 3, none⟩ = some (.slice (some ⟨d.Lo, 0, none⟩) (d.n + 1) (d.n + 1)) := by have := hr1.cell (d.o + 3) (by have := OK.out.o5; omega); rwa [if_neg (by omega), OK.out.m3] at this
              have q2 : w1.cell? ⟨d.P, d.o + 5, none⟩ = some (.slice (some ⟨d.LO, 0, none⟩) (d.n + 1) (d.n + 1)) := by have := hr1.cell (d.o + 5) (by have := OK.out.o5; omega); rwa [if_neg (by omega), OK.out.m5] at this
              have q3 : w1.cell? ⟨d.LO, c.q, none⟩ = some (.int .i64 (lovF d.ol c.q)) := hr2.cell c.q (by omega)
              have d1 : U[179]?.getD undef = .pointer (some ⟨d.P, d.o, none⟩) := slot_of (chain_of (hdep ⟨1, .data⟩ (by simp) rfl (by decide)) rfl) rfl
              refine step_of_run (v := .pointer (some ⟨d.P, d.o + 3, none⟩)) (w' := _) ?_ ⟨rfl, _, rfl, (fun h => by cases h), rfl⟩
              simp [execOp, go_sem, d1, q1, q2, q3, i1, i2, hMM, wrM]
            · have hvl := hanc 2 (by decide) (by decide)
              have hr1 : Row w1 d.P d.tP d.NP (fun k => if k = d.o + 4 then fav else d.mP k) := by
                match vs, hSt, hvl with
                | [], h, _ => exact (show w1 = w2.drew from h) ▸ HPS2.out.P.drew
                | [v], h, _ => exact h.2 ▸ HPS2.out.P.drew.alloc _
                | [v, u], h, _ => exact h.2.2 ▸ HPS2.out.P.drew.alloc _
              have hr2 : Row w1 d.LO 3 (d.n + 1) (fun k => .int .i64 (lovF d.ol k)) := by
                match vs, hSt, hvl with
                | [], h, _ => exact (show w1 = w2.drew from h) ▸ HPS2.out.LO.drew
                | [v], h, _ => exact h.2 ▸ HPS2.out.LO.drew.alloc _
                | [v, u], h, _ => exact h.2.2 ▸ HPS2.out.LO.drew.alloc _
              have q1 : w1.cell? ⟨d.P, d.o + 3, none⟩ = some (.slice (some ⟨d.Lo, 0, none⟩) (d.n + 1) (d.n + 1)) := by have := hr1.cell (d.o + 3) (by have := OK.out.o5; omega); rwa [if_neg (by omega), OK.out.m3] at this
              have q2 : w1.cell? ⟨d.P, d.o + 5, none⟩ = some (.slice (some ⟨d.LO, 0, none⟩) (d.n + 1) (d.n + 1)) := by have := hr1.cell (d.o + 5) (by have := OK.out.o5; omega); rwa [if_neg (by omega), OK.out.m5] at this
              have q3 : w1.cell? ⟨d.LO, c.q, none⟩ = some (.int .i64 (lovF d.ol c.q)) := hr2.cell c.q (by omega)
              have d2 : U[180]?.getD undef = .pointer (some ⟨d.P, d.o + 3, none⟩) := slot_of (chain_of (hdep ⟨2, .data⟩ (by simp) rfl (by decide)) rfl) rfl
              refine step_of_run (v := .slice (some ⟨d.Lo, 0, none⟩) (d.n + 1) (d.n + 1)) (w' := _) ?_ ⟨rfl, _, rfl, (fun h => by cases h), rfl⟩
              simp [execOp, go_sem, d2, q1, q2, q3, i1, i2, hMM, wrM]
            · have hvl := hanc 2 (by decide) (by decide)
              have hr1 : Row w1 d.P d.tP d.NP (fun k => if k = d.o + 4 then fav else d.mP k) := by
                match vs, hSt, hvl with
                | [], h, _ => exact (show w1 = w2.drew from h) ▸ HPS2.out.P.drew
                | [v], h, _ => exact h.2 ▸ HPS2.out.P.drew.alloc _
                | [v, u], h, _ => exact h.2.2 ▸ HPS2.out.P.drew.alloc _
              have hr2 : Row w1 d.LO 3 (d.n + 1) (fun k => .int .i64 (lovF d.ol k)) := by
                match vs, hSt, hvl with
                | [], h, _ => exact (show w1 = w2.drew from h) ▸ HPS2.out.LO.drew
                | [v], h, _ => exact h.2 ▸ HPS2.out.LO.drew.alloc _
                | [v, u], h, _ => exact h.2.2 ▸ HPS2.out.LO.drew.alloc _
              have q1 : w1.cell? ⟨d.P, d.o + 3, none⟩ = some (.slice (some ⟨d.Lo, 0, none⟩) (d.n + 1) (d.n + 1)) := by have := hr1.cell (d.o + 3) (by have := OK.out.o5; omega); rwa [if_neg (by omega), OK.out.m3] at this
              have q2 : w1.cell? ⟨d.P, d.o + 5, none⟩ = some (.slice (some ⟨d.LO, 0, none⟩) (d.n + 1) (d.n + 1)) := by have := hr1.cell (d.o + 5) (by have := OK.out.o5; omega); rwa [if_neg (by omega), OK.out.m5] at this
              have q3 : w1.cell? ⟨d.LO, c.q, none⟩ = some (.int .i64 (lovF d.ol c.q)) := hr2.cell c.q (by omega)
              have hx14 : U[14]?.getD undef = .int .i64 c.q := kept_of hK 14 (by decide) (by assumption)
              refine step_of_run (v := .int .i64 c.q) (w' := _) ?_ ⟨rfl, _, rfl, (fun h => by cases h), rfl⟩
              simp [execOp, go_sem, hx14, q1, q2, q3, i1, i2, hMM, wrM]
            · have hvl := hanc 2 (by decide) (by decide)
              have hr1 : Row w1 d.P d.tP d.NP (fun k => if k = d.o + 4 then fav else d.mP k) := by
                match vs, hSt, hvl with
                | [], h, _ => exact (show w1 = w2.drew from h) ▸ HPS2.out.P.drew
                | [v], h, _ => exact h.2 ▸ HPS2.out.P.drew.alloc _
                | [v, u], h, _ => exact h.2.2 ▸ HPS2.out.P.drew.alloc _
              have hr2 : Row w1 d.LO 3 (d.n + 1) (fun k => .int .i64 (lovF d.ol k)) := by
                match vs, hSt, hvl with
                | [], h, _ => exact (show w1 = w2.drew from h) ▸ HPS2.out.LO.drew
                | [v], h, _ => exact h.2 ▸ HPS2.out.LO.drew.alloc _
                | [v, u], h, _ => exact h.2.2 ▸ HPS2.out.LO.drew.alloc _
              have q1 : w1.cell? ⟨d.P, d.o + 3, none⟩ = some (.slice (some ⟨d.Lo, 0, none⟩) (d.n + 1) (d.n + 1)) := by have := hr1.cell (d.o + 3) (by have := OK.out.o5; omega); rwa [if_neg (by omega), OK.out.m3] at this
              have q2 : w1.cell? ⟨d.P, d.o + 5, none⟩ = some (.slice (some ⟨d.LO, 0, none⟩) (d.n + 1) (d.n + 1)) := by have := hr1.cell (d.o + 5) (by have := OK.out.o5; omega); rwa [if_neg (by omega), OK.out.m5] at this
              have q3 : w1.cell? ⟨d.LO, c.q, none⟩ = some (.int .i64 (lovF d.ol c.q)) := hr2.cell c.q (by omega)
              have hx0 : U[0]?.getD undef = .pointer (some ⟨d.P, d.o, none⟩) := kept_of hK 0 (by decide) (by assumption)
              refine step_of_run (v := .pointer (some ⟨d.P, d.o, none⟩)) (w' := _) ?_ ⟨rfl, _, rfl, (fun h => by cases h), rfl⟩
              simp [execOp, go_sem, hx0, q1, q2, q3, i1, i2, hMM, wrM]
            · have hvl := hanc 2 (by decide) (by decide)
              have hr1 : Row w1 d.P d.tP d.NP (fun k => if k = d.o + 4 then fav else d.mP k) := by
                match vs, hSt, hvl with
                | [], h, _ => exact (show w1 = w2.drew from h) ▸ HPS2.out.P.drew
                | [v], h, _ => exact h.2 ▸ HPS2.out.P.drew.alloc _
                | [v, u], h, _ => exact h.2.2 ▸ HPS2.out.P.drew.alloc _
              have hr2 : Row w1 d.LO 3 (d.n + 1) (fun k => .int .i64 (lovF d.ol k)) := by
                match vs, hSt, hvl with
                | [], h, _ => exact (show w1 = w2.drew from h) ▸ HPS2.out.LO.drew
                | [v], h, _ => exact h.2 ▸ HPS2.out.LO.drew.alloc _
                | [v, u], h, _ => exact h.2.2 ▸ HPS2.out.LO.drew.alloc _
              have q1 : w1.cell? ⟨d.P, d.o + 3, none⟩ = some (.slice (some ⟨d.Lo, 0, none⟩) (d.n + 1) (d.n + 1)) := by have := hr1.cell (d.o + 3) (by have := OK.out.o5; omega); rwa [if_neg (by omega), OK.out.m3] at this
              have q2 : w1.cell? ⟨d.P, d.o + 5, none⟩ = some (.slice (some ⟨d.LO, 0, none⟩) (d.n + 1) (d.n + 1)) := by have := hr1.cell (d.o + 5) (by have := OK.out.o5; omega); rwa [if_neg (by omega), OK.out.m5] at this
              have q3 : w1.cell? ⟨d.LO, c.q, none⟩ = some (.int .i64 (lovF d.ol c.q)) := hr2.cell c.q (by omega)
              have d5 : U[183]?.getD undef = .pointer (some ⟨d.P, d.o, none⟩) := slot_of (chain_of (hdep ⟨5, .data⟩ (by simp) rfl (by decide)) rfl) rfl
              refine step_of_run (v := .pointer (some ⟨d.P, d.o, none⟩)) (w' := _) ?_ ⟨rfl, _, rfl, (fun h => by cases h), rfl⟩
              simp [execOp, go_sem, d5, q1, q2, q3, i1, i2, hMM, wrM]
            · have hvl := hanc 2 (by decide) (by decide)
              have hr1 : Row w1 d.P d.tP d.NP (fun k => if k = d.o + 4 then fav else d.mP k) := by
                match vs, hSt, hvl with
                | [], h, _ => exact (show w1 = w2.drew from h) ▸ HPS2.out.P.drew
                | [v], h, _ => exact h.2 ▸ HPS2.out.P.drew.alloc _
                | [v, u], h, _ => exact h.2.2 ▸ HPS2.out.P.drew.alloc _
              have hr2 : Row w1 d.LO 3 (d.n + 1) (fun k => .int .i64 (lovF d.ol k)) := by
                match vs, hSt, hvl with
                | [], h, _ => exact (show w1 = w2.drew from h) ▸ HPS2.out.LO.drew
                | [v], h, _ => exact h.2 ▸ HPS2.out.LO.drew.alloc _
                | [v, u], h, _ => exact h.2.2 ▸ HPS2.out.LO.drew.alloc _
              have q1 : w1.cell? ⟨d.P, d.o + 3, none⟩ = some (.slice (some ⟨d.Lo, 0, none⟩) (d.n + 1) (d.n + 1)) := by have := hr1.cell (d.o + 3) (by have := OK.out.o5; omega); rwa [if_neg (by omega), OK.out.m3] at this
              have q2 : w1.cell? ⟨d.P, d.o + 5, none⟩ = some (.slice (some ⟨d.LO, 0, none⟩) (d.n + 1) (d.n + 1)) := by have := hr1.cell (d.o + 5) (by have := OK.out.o5; omega); rwa [if_neg (by omega), OK.out.m5] at this
              have q3 : w1.cell? ⟨d.LO, c.q, none⟩ = some (.int .i64 (lovF d.ol c.q)) := hr2.cell c.q (by omega)
              have d6 : U[184]?.getD undef = .pointer (some ⟨d.P, d.o, none⟩) := slot_of (chain_of (hdep ⟨6, .data⟩ (by simp) rfl (by decide)) rfl) rfl
              refine step_of_run (v := .pointer (some ⟨d.P, d.o + 5, none⟩)) (w' := _) ?_ ⟨rfl, _, rfl, (fun h => by cases h), rfl⟩
              simp [execOp, go_sem, d6, q1, q2, q3, i1, i2, hMM, wrM]
            · have hvl := hanc 2 (by decide) (by decide)
              have hr1 : Row w1 d.P d.tP d.NP (fun k => if k = d.o + 4 then fav else d.mP k) := by
                match vs, hSt, hvl with
                | [], h, _ => exact (show w1 = w2.drew from h) ▸ HPS2.out.P.drew
                | [v], h, _ => exact h.2 ▸ HPS2.out.P.drew.alloc _
                | [v, u], h, _ => exact h.2.2 ▸ HPS2.out.P.drew.alloc _
              have hr2 : Row w1 d.LO 3 (d.n + 1) (fun k => .int .i64 (lovF d.ol k)) := by
                match vs, hSt, hvl with
                | [], h, _ => exact (show w1 = w2.drew from h) ▸ HPS2.out.LO.drew
                | [v], h, _ => exact h.2 ▸ HPS2.out.LO.drew.alloc _
                | [v, u], h, _ => exact h.2.2 ▸ HPS2.out.LO.drew.alloc _
              have q1 : w1.cell? ⟨d.P, d.o + 3, none⟩ = some (.slice (some ⟨d.Lo, 0, none⟩) (d.n + 1) (d.n + 1)) := by have := hr1.cell (d.o + 3) (by have := OK.out.o5; omega); rwa [if_neg (by omega), OK.out.m3] at this
              have q2 : w1.cell? ⟨d.P, d.o + 5, none⟩ = some (.slice (some ⟨d.LO, 0, none⟩) (d.n + 1) (d.n + 1)) := by have := hr1.cell (d.o + 5) (by have := OK.out.o5; omega); rwa [if_neg (by omega), OK.out.m5] at this
              have q3 : w1.cell? ⟨d.LO, c.q, none⟩ = some (.int .i64 (lovF d.ol c.q)) := hr2.cell c.q (by omega)
              have d7 : U[185]?.getD undef = .pointer (some ⟨d.P, d.o + 5, none⟩) := slot_of (chain_of (hdep ⟨7, .data⟩ (by simp) rfl (by decide)) rfl) rfl
              refine step_of_run (v := .slice (some ⟨d.LO, 0, none⟩) (d.n + 1) (d.n + 1)) (w' := _) ?_ ⟨rfl, _, rfl, (fun h => by cases h), rfl⟩
              simp [execOp, go_sem, d7, q1, q2, q3, i1, i2, hMM, wrM]
            · have hvl := hanc 2 (by decide) (by decide)
              have hr1 : Row w1 d.P d.tP d.NP (fun k => if k = d.o + 4 then fav else d.mP k) := by
                match vs, hSt, hvl with
                | [], h, _ => exact (show w1 = w2.drew from h) ▸ HPS2.out.P.drew
                | [v], h, _ => exact h.2 ▸ HPS2.out.P.drew.alloc _
                | [v, u], h, _ => exact h.2.2 ▸ HPS2.out.P.drew.alloc _
              have hr2 : Row w1 d.LO 3 (d.n + 1) (fun k => .int .i64 (lovF d.ol k)) := by
                match vs, hSt, hvl with
                | [], h, _ => exact (show w1 = w2.drew from h) ▸ HPS2.out.LO.drew
                | [v], h, _ => exact h.2 ▸ HPS2.out.LO.drew.alloc _
                | [v, u], h, _ => exact h.2.2 ▸ HPS2.out.LO.drew.alloc _
              have q1 : w1.cell? ⟨d.P, d.o + 3, none⟩ = some (.slice (some ⟨d.Lo, 0, none⟩) (d.n + 1) (d.n + 1)) := by have := hr1.cell (d.o + 3) (by have := OK.out.o5; omega); rwa [if_neg (by omega), OK.out.m3] at this
              have q2 : w1.cell? ⟨d.P, d.o + 5, none⟩ = some (.slice (some ⟨d.LO, 0, none⟩) (d.n + 1) (d.n + 1)) := by have := hr1.cell (d.o + 5) (by have := OK.out.o5; omega); rwa [if_neg (by omega), OK.out.m5] at this
              have q3 : w1.cell? ⟨d.LO, c.q, none⟩ = some (.int .i64 (lovF d.ol c.q)) := hr2.cell c.q (by omega)
              have hx14 : U[14]?.getD undef = .int .i64 c.q := kept_of hK 14 (by decide) (by assumption)
              refine step_of_run (v := .int .i64 c.q) (w' := _) ?_ ⟨rfl, _, rfl, (fun h => by cases h), rfl⟩
              simp [execOp, go_sem, hx14, q1, q2, q3, i1, i2, hMM, wrM]
            · have hvl := hanc 2 (by decide) (by decide)
              have hr1 : Row w1 d.P d.tP d.NP (fun k => if k = d.o + 4 then fav else d.mP k) := by
                match vs, hSt, hvl with
                | [], h, _ => exact (show w1 = w2.drew from h) ▸ HPS2.out.P.drew
                | [v], h, _ => exact h.2 ▸ HPS2.out.P.drew.alloc _
                | [v, u], h, _ => exact h.2.2 ▸ HPS2.out.P.drew.alloc _
              have hr2 : Row w1 d.LO 3 (d.n + 1) (fun k => .int .i64 (lovF d.ol k)) := by
                match vs, hSt, hvl with
                | [], h, _ => exact (show w1 = w2.drew from h) ▸ HPS2.out.LO.drew
                | [v], h, _ => exact h.2 ▸ HPS2.out.LO.drew.alloc _
                | [v, u], h, _ => exact h.2.2 ▸ HPS2.out.LO.drew.alloc _
              have q1 : w1.cell? ⟨d.P, d.o + 3, none⟩ = some (.slice (some ⟨d.Lo, 0, none⟩) (d.n + 1) (d.n + 1)) := by have := hr1.cell (d.o + 3) (by have := OK.out.o5; omega); rwa [if_neg (by omega), OK.out.m3] at this
              have q2 : w1.cell? ⟨d.P, d.o + 5, none⟩ = some (.slice (some ⟨d.LO, 0, none⟩) (d.n + 1) (d.n + 1)) := by have := hr1.cell (d.o + 5) (by have := OK.out.o5; omega); rwa [if_neg (by omega), OK.out.m5] at this
              have q3 : w1.cell? ⟨d.LO, c.q, none⟩ = some (.int .i64 (lovF d.ol c.q)) := hr2.cell c.q (by omega)
              have d8 : U[186]?.getD undef = .slice (some ⟨d.LO, 0, none⟩) (d.n + 1) (d.n + 1) := slot_of (chain_of (hdep ⟨8, .data⟩ (by simp) rfl (by decide)) rfl) rfl
              have d9 : U[187]?.getD undef = .int .i64 c.q := slot_of (chain_of (hdep ⟨9, .data⟩ (by simp) rfl (by decide)) rfl) rfl
              refine step_of_run (v := .pointer (some ⟨d.LO, c.q, none⟩)) (w' := _) ?_ ⟨rfl, _, rfl, (fun h => by cases h), rfl⟩
              simp [execOp, go_sem, d8, d9, q1, q2, q3, i1, i2, hMM, wrM]
            · have hvl := hanc 2 (by decide) (by decide)
              have hr1 : Row w1 d.P d.tP d.NP (fun k => if k = d.o + 4 then fav else d.mP k) := by
                match vs, hSt, hvl with
                | [], h, _ => exact (show w1 = w2.drew from h) ▸ HPS2.out.P.drew
                | [v], h, _ => exact h.2 ▸ HPS2.out.P.drew.alloc _
                | [v, u], h, _ => exact h.2.2 ▸ HPS2.out.P.drew.alloc _
              have hr2 : Row w1 d.LO 3 (d.n + 1) (fun k => .int .i64 (lovF d.ol k)) := by
                match vs, hSt, hvl with
                | [], h, _ => exact (show w1 = w2.drew from h) ▸ HPS2.out.LO.drew
                | [v], h, _ => exact h.2 ▸ HPS2.out.LO.drew.alloc _
                | [v, u], h, _ => exact h.2.2 ▸ HPS2.out.LO.drew.alloc _
              have q1 : w1.cell? ⟨d.P, d.o + 3, none⟩ = some (.slice (some ⟨d.Lo, 0, none⟩) (d.n + 1) (d.n + 1)) := by have := hr1.cell (d.o + 3) (by have := OK.out.o5; omega); rwa [if_neg (by omega), OK.out.m3] at this
              have q2 : w1.cell? ⟨d.P, d.o + 5, none⟩ = some (.slice (some ⟨d.LO, 0, none⟩) (d.n + 1) (d.n + 1)) := by have := hr1.cell (d.o + 5) (by have := OK.out.o5; omega); rwa [if_neg (by omega), OK.out.m5] at this
              have q3 : w1.cell? ⟨d.LO, c.q, none⟩ = some (.int .i64 (lovF d.ol c.q)) := hr2.cell c.q (by omega)
              have d10 : U[188]?.getD undef = .pointer (some ⟨d.LO, c.q, none⟩) := slot_of (chain_of (hdep ⟨10, .data⟩ (by simp) rfl (by decide)) rfl) rfl
              refine step_of_run (v := .int .i64 (lovF d.ol c.q)) (w' := _) ?_ ⟨rfl, _, rfl, (fun h => by cases h), rfl⟩
              simp [execOp, go_sem, d10, q1, q2, q3, i1, i2, hMM, wrM]
            · have hvl := hanc 2 (by decide) (by decide)
              have hr1 : Row w1 d.P d.tP d.NP (fun k => if k = d.o + 4 then fav else d.mP k) := by
                match vs, hSt, hvl with
                | [], h, _ => exact (show w1 = w2.drew from h) ▸ HPS2.out.P.drew
                | [v], h, _ => exact h.2 ▸ HPS2.out.P.drew.alloc _
                | [v, u], h, _ => exact h.2.2 ▸ HPS2.out.P.drew.alloc _
              have hr2 : Row w1 d.LO 3 (d.n + 1) (fun k => .int .i64 (lovF d.ol k)) := by
                match vs, hSt, hvl with
                | [], h, _ => exact (show w1 = w2.drew from h) ▸ HPS2.out.LO.drew
                | [v], h, _ => exact h.2 ▸ HPS2.out.LO.drew.alloc _
                | [v, u], h, _ => exact h.2.2 ▸ HPS2.out.LO.drew.alloc _
              have q1 : w1.cell? ⟨d.P, d.o + 3, none⟩ = some (.slice (some ⟨d.Lo, 0, none⟩) (d.n + 1) (d.n + 1)) := by have := hr1.cell (d.o + 3) (by have := OK.out.o5; omega); rwa [if_neg (by omega), OK.out.m3] at this
              have q2 : w1.cell? ⟨d.P, d.o + 5, none⟩ = some (.slice (some ⟨d.LO, 0, none⟩) (d.n + 1) (d.n + 1)) := by have := hr1.cell (d.o + 5) (by have := OK.out.o5; omega); rwa [if_neg (by omega), OK.out.m5] at this
              have q3 : w1.cell? ⟨d.LO, c.q, none⟩ = some (.int .i64 (lovF d.ol c.q)) := hr2.cell c.q (by omega)
              have hx11 : U[11]?.getD undef = .int .i64 ((d.n : Int) + 1) := kept_of hK 11 (by decide) (by assumption)
              refine step_of_run (v := .int .i64 ((d.n : Int) + 1)) (w' := _) ?_ ⟨rfl, _, rfl, (fun h => by cases h), rfl⟩
              simp [execOp, go_sem, hx11, q1, q2, q3, i1, i2, hMM, wrM]
            · have hvl := hanc 2 (by decide) (by decide)
              have hr1 : Row w1 d.P d.tP d.NP (fun k => if k = d.o + 4 then fav else d.mP k) := by
                match vs, hSt, hvl with
                | [], h, _ => exact (show w1 = w2.drew from h) ▸ HPS2.out.P.drew
                | [v], h, _ => exact h.2 ▸ HPS2.out.P.drew.alloc _
                | [v, u], h, _ => exact h.2.2 ▸ HPS2.out.P.drew.alloc _
              have hr2 : Row w1 d.LO 3 (d.n + 1) (fun k => .int .i64 (lovF d.ol k)) := by
                match vs, hSt, hvl with
                | [], h, _ => exact (show w1 = w2.drew from h) ▸ HPS2.out.LO.drew
                | [v], h, _ => exact h.2 ▸ HPS2.out.LO.drew.alloc _
                | [v, u], h, _ => exact h.2.2 ▸ HPS2.out.LO.drew.alloc _
              have q1 : w1.cell? ⟨d.P, d.o + 3, none⟩ = some (.slice (some ⟨d.Lo, 0, none⟩) (d.n + 1) (d.n + 1)) := by have := hr1.cell (d.o + 3) (by have := OK.out.o5; omega); rwa [if_neg (by omega), OK.out.m3] at this
              have q2 : w1.cell? ⟨d.P, d.o + 5, none⟩ = some (.slice (some ⟨d.LO, 0, none⟩) (d.n + 1) (d.n + 1)) := by have := hr1.cell (d.o + 5) (by have := OK.out.o5; omega); rwa [if_neg (by omega), OK.out.m5] at this
              have q3 : w1.cell? ⟨d.LO, c.q, none⟩ = some (.int .i64 (lovF d.ol c.q)) := hr2.cell c.q (by omega)
              have d11 : U[189]?.getD undef = .int .i64 (lovF d.ol c.q) := slot_of (chain_of (hdep ⟨11, .data⟩ (by simp) rfl (by decide)) rfl) rfl
              have d12 : U[190]?.getD undef = .int .i64 ((d.n : Int) + 1) := slot_of (chain_of (hdep ⟨12, .data⟩ (by simp) rfl (by decide)) rfl) rfl
              refine step_of_run (v := .int .i64 M) (w' := _) ?_ ⟨rfl, _, rfl, (fun h => by cases h), rfl⟩
              simp [execOp, go_sem, d11, d12, q1, q2, q3, i1, i2, hMM, wrM]
            · exact absurd (by decide) hia
            · exact absurd (by decide) hia
            · exact absurd (by decide) hia
          · intro j hj hi U vs w1 hlen hU hK hSt hdep hprev
            have hj' : j < 3 := hj
            rcases (by omega : j = 0 ∨ j = 1 ∨ j = 2) with rfl | rfl | rfl
            · obtain rfl : vs = [] := List.eq_nil_of_length_eq_zero hlen
              have d13 : U[191]?.getD undef = .int .i64 M := slot_of (chain_of (hdep ⟨13, .data⟩ (by simp) rfl (by decide)) rfl) rfl
              have d13 : U[191]?.getD undef = .int .i64 M := slot_of (chain_of (hdep ⟨13, .data⟩ (by simp) rfl (by decide)) rfl) rfl
              have hw1 : w1 = w2.drew := hSt
              subst hw1
              refine step_of_run (v := .slice (some ⟨w2.heap.size, 0, none⟩) M M) (w' := w2.drew.alloc (.cells (madeCells #[.bool false] M) 4)) ?_ ⟨_, rfl, (fun h => by cases h), rfl, rfl⟩
              simp [execOp, go_sem, mk1, d13, d13]
            · obtain ⟨v0, rfl⟩ : ∃ v0, vs = [v0] := by
                match vs, hlen with | [v0], _ => exact ⟨v0, rfl⟩
              have p0 : U[192]?.getD undef = v0 := slot_of (hprev 0 (by decide)) rfl
              have d3 : U[181]?.getD undef = .slice (some ⟨d.Lo, 0, none⟩) (d.n + 1) (d.n + 1) := slot_of (chain_of (hdep ⟨3, .data⟩ (by simp) rfl (by decide)) rfl) rfl
              have d4 : U[182]?.getD undef = .int .i64 c.q := slot_of (chain_of (hdep ⟨4, .data⟩ (by simp) rfl (by decide)) rfl) rfl
              obtain ⟨rfl, rfl⟩ := hSt
              refine step_of_run (v := .pointer (some ⟨d.Lo, c.q, none⟩)) (w' := w2.drew.alloc (.cells (madeCells #[.bool false] M) 4)) ?_ ⟨_, rfl, (fun h => by cases h), rfl, rfl, rfl⟩
              simp [execOp, go_sem, i1, i2, d3, d4, p0]
            · obtain ⟨v0, v1, rfl⟩ : ∃ v0 v1, vs = [v0, v1] := by
                match vs, hlen with | [v0, v1], _ => exact ⟨v0, v1, rfl⟩
              have p0 : U[192]?.getD undef = v0 := slot_of (hprev 0 (by decide)) rfl
              have p1 : U[193]?.getD undef = v1 := slot_of (hprev 1 (by decide)) rfl
              obtain ⟨rfl, rfl, rfl⟩ := hSt
              have hR4 : Row (w2.drew.alloc (.cells (madeCells #[.bool false] M) 4)) d.Lo 92 (d.n + 1) loV := HPS2.out.Lo.drew.alloc _
              have q4 := hR4.cell c.q (by omega)
              have q5 := hR4.frozen c.q
              refine step_of_skip (w' := (w2.drew.alloc (.cells (madeCells #[.bool false] M) 4)).setCell ⟨d.Lo, c.q, none⟩ (.slice (some ⟨w2.heap.size, 0, none⟩) M M)) ?_ ⟨undef, rfl, (fun _ => rfl), rfl⟩
              simp [execOp, go_sem, p0, p1] at q4 q5 ⊢
              simp [q4, q5]
          · intro X vs w5 hX hKX hlen5 hSt hval hall
            have hw5 : w5 = (w2.drew.alloc (.cells (madeCells #[.bool false] M) 4)).setCell ⟨d.Lo, c.q, none⟩ (.slice (some ⟨w2.heap.size, 0, none⟩) M M) := by
              match vs, hlen5, hSt with
              | [_, _, _], _, h => exact h
            obtain ⟨b, hbe⟩ : ∃ b, b = w2.heap.size := ⟨_, rfl⟩
            have hLb : d.Lo ≠ b := by have := HPS2.out.Lo.lt; omega
            have hb5 : Row w5 b 4 M (fun _ => .bool false) := by
              rw [hw5, hbe]
              exact (Row.made w2.drew (.bool false) 4 M).far _ _ (by rw [hbe] at hLb; exact Ne.symm hLb)
            have hL5 : Row w5 d.Lo 92 (d.n + 1) (fun k => if k = c.q then .slice (some ⟨b, 0, none⟩) M M else loV k) := by
              rw [hw5, hbe]
              exact (HPS2.out.Lo.drew.alloc _).set c.q _
            have ho5 : Only (fun x => x = d.Lo) w2 w5 := by rw [hw5]; exact Only.setCell (S := fun x => x = d.Lo) (Only.refl.drew.alloc _) (p := ⟨d.Lo, c.q, none⟩) (fun _ => rfl) _
            have hps5 := HPS2.out.setLo OK.out c.q hq1 hqn b M (by omega) ho5 hL5 (fun _ => false) hb5
            have elo : (fun k => if k = c.q then (fun _ => false) else loF d (d.ol.take j) k) = loF d (d.ol.take j) := by
              funext k
              by_cases e : k = c.q
              · rw [if_pos e, e, loF_none d _ _ hh]
              · rw [if_neg e]
            have emm : mmF d (d.ol.take (j + 1)) = fun k => if k = c.q then M else mmF d (d.ol.take j) k := by
              funext k
              unfold mmF
              rw [hasF_succ d.ol j hj, ← HCE.out]
              by_cases e : k = c.q
              · simp [e, HME.out]
              · have e' : ¬ c.q = k := fun h => e h.symm
                simp [e, e']
            rw [elo] at hps5
            obtain ⟨loV2, hloV2⟩ : ∃ loV2, loV2 = fun k => if k = c.q then Value.slice (some ⟨b, 0, none⟩) M M else loV k := ⟨_, rfl⟩
            obtain ⟨mm2, hmm2⟩ : ∃ mm2, mm2 = fun k => if k = c.q then M else mmF d (d.ol.take j) k := ⟨_, rfl⟩
            rw [← hloV2, ← hmm2] at hps5
            rw [← hmm2] at emm
            have HLV2 := hidP hloV2
            have HLVX : Hid (loV2 c.q = .slice (some ⟨b, 0, none⟩) M M) := hidP (by rw [hloV2]; simp)
            have HMMX : Hid (mm2 c.q = M) := hidP (by rw [hmm2]; simp)
            clear hloV2 hmm2
            have HPS5 := hidP hps5
            have HMMJ := hidP emm
            have HROW5 := hidP (HROW2.out.only ho5 (fun e => by have := HCB.out; have := OK.out.bLo; have := HPS.out.sz; omega))
            have HR5 := hidP (HR2.out.trans' ho5 (fun b _ e => .inr (.inr (.inr (.inl e)))))
            have HCBB : Hid (cb ≠ b) := hidP (by have := HCB.out; omega)
            have hKX2 := Keeps.trans HKW.out (Kept.keeps (lo := 12) (hi := 235) (vs := []) hKX (hX.trans hW.symm) (by decide))
            have HKX := hidP hKX2
            have x0 := hKX2.at' hX 0 (by decide) t0 (by decide) (by decide)
            have x13 : X[13]'(by omega) = .pointer (some ⟨cb, 0, none⟩) := at_of _ (kept_of hKX 13 (by decide) w13)
            have x14 : X[14]'(by omega) = .int .i64 c.q := at_of _ (kept_of hKX 14 (by decide) w14)
            have x34 : X[155]'(by omega) = .slice (some ⟨B, 0, none⟩) d.ol.length cap := at_of _ (kept_of hKX 155 (by decide) w34)
            have x35 : X[156]'(by omega) = .int .i64 d.ol.length := at_of _ (kept_of hKX 156 (by decide) w35)
            have x36 : X[157]'(by omega) = .int .i64 j := at_of _ (kept_of hKX 157 (by decide) w36)
            have cP1 : w5.cell? ⟨d.P, d.o + 1, none⟩ = some (.slice (some ⟨d.C, 0, none⟩) (d.n + 1) (d.n + 1)) := by have := hps5.P.cell (d.o + 1) (by have := OK.out.o5; omega); rwa [if_neg (by omega), OK.out.m1] at this
            have cC := hps5.C.cell c.q (by omega)
            have cP4 : w5.cell? ⟨d.P, d.o + 4, none⟩ = some fav := by have := hps5.P.cell (d.o + 4) (by have := OK.out.o5; omega); rwa [if_pos rfl] at this
            have hsz5 := hps5.sz
            clear hKX hSt hval hall hKX2 w0 w11 w13 w14 w34 w35 w36 hb5 hL5 ho5 hps5 hw5 hbe elo emm hMM wrM mk1 HKW
            by_cases hc0 : cr c.q = 0
            · have hc0' : ((cr c.q : Int) == 0) = true := by simp [hc0]
              go_upto_if 201 with fail
              refine wp_cond_at true (by simp [Act.eval, hX, hc0]) (fun _ => ?_) (fun h => by cases h)
              refine gen_frame (fun V => V.size = 236 ∧ Keeps 12 235 [] T V ∧ V[13]?.getD undef = .pointer (some ⟨cb, 0, none⟩) ∧ V[14]?.getD undef = .int .i64 c.q ∧ V[155]?.getD undef = .slice (some ⟨B, 0, none⟩) d.ol.length cap ∧ V[156]?.getD undef = .int .i64 d.ol.length ∧ V[157]?.getD undef = .int .i64 j) ⟨by simp [hX], ?_, by simp [hX, x13], by simp [hX, x14], by simp [hX, x34], by simp [hX, x35], by simp [hX, x36]⟩ ?_
              · repeat (refine Keeps.put ?_ _ _ (by first | exact .inr ⟨by decide, by decide⟩ | exact .inl (by decide)))
                exact HKX.out
              clear x0 x13 x14 x34 x35 x36 HKX cP1 cC hX
              clear X
              rintro W2 ⟨hW, hKW, w13, w14, w34, w35, w36⟩
              have w0 := hKW.at' hW 0 (by decide) t0 (by decide) (by decide)
              have w13' : W2[13]'(by omega) = _ := at_of _ w13
              have w14' : W2[14]'(by omega) = _ := at_of _ w14
              have w34' : W2[155]'(by omega) = _ := at_of _ w34
              have w35' : W2[156]'(by omega) = _ := at_of _ w35
              have w36' : W2[157]'(by omega) = _ := at_of _ w36
              have HKW := hidP hKW
              obtain ⟨i0, hi0, hz0, hz1, hz2'⟩ := info_parts info3'
              clear hKW w13 w14 w34 w35 w36
              go_wp2_with (at_builtin; refine wpList_append_lies _ rfl _ _ 29 rfl d.hi 3 i0 (.int .i64 0) 1 8 Yba.underlying29 hi0 hz0 hz1 hz2' rfl (by decide) fav fl.length (natsV fl) (by simp [Act.eval, hW]) ?c1 ⟨w5.heap.size, 0, none⟩ 1 1 [.int .i64 c.q] (by simp [Act.eval, hW]) rfl ?c2 (by simp [Value.oneCell']) (by decide) (by show _ ≤ 9223372036854775807; omega) (by omega) ?c3 (w5.heap.size + 1) ?c4 ?_)
              case c1 => exact HPS5.out.fa.alloc _
              case c3 => first | omega | (simp; omega)
              intro gg cp w6a hown1 hgrow hat hlt
              have hgg : fav.ownBlock = some gg ∨ w5.heap.size ≤ gg := by
                rcases hat with h | h
                · exact .inl h
                · exact .inr (by omega)
              have hps5 := HPS5.out
              obtain ⟨M1, M2⟩ := hps5.appended OK.out (Only.refl.alloc _) hown1 hgrow hgg
              have hP1 : Row w6a d.P d.tP d.NP (fun k => if k = d.o + 4 then fav else d.mP k) := (hps5.P.alloc _).grown hgrow (fun e => by have := hps5.fa_block e.symm; have := OK.out.bP; omega)
              have cP4' : w6a.cell? ⟨d.P, d.o + 4, none⟩ = some fav := by have := hP1.cell (d.o + 4) (by have := OK.out.o5; omega); rwa [if_pos rfl] at this
              have fP4' := hP1.frozen (d.o + 4)
              obtain ⟨w6, hw6⟩ : ∃ w6, w6a.setCell ⟨d.P, d.o + 4, none⟩ (.slice (some ⟨gg, 0, none⟩) (fl.length + 1) cp) = w6 := ⟨_, rfl⟩
              obtain ⟨fav4, hfav4⟩ : ∃ fav4, fav4 = Value.slice (some ⟨gg, 0, none⟩) (fl.length + 1) cp := ⟨_, rfl⟩
              rw [hw6, ← hfav4] at M1
              rw [hw6] at M2
              have HPSX := hidP M1
              have HROWX := hidP (HROW5.out.only M2 (fun e => by
                rcases e with e | e
                · have := HCB.out; have := OK.out.bP; have := HPS.out.sz; omega
                · have h5 := HPS.out.fa_block e
                  have := HCB.out
                  omega))
              have HRX := hidP (HR5.out.trans' M2 (fun b _ e => by
                rcases e with e | e
                · exact .inl e
                · exact .inr (.inr (.inr (.inr (.inr (hps5.fa_block e).1))))))
              clear hown1 hgrow hat hlt hgg hps5 M1 M2 hP1 hfav4
              go_upto_region 37 with fail
              refine gen_frame (fun V => V.size = 236 ∧ Keeps 12 235 [] T V ∧ V[13]?.getD undef = .pointer (some ⟨cb, 0, none⟩) ∧ V[14]?.getD undef = .int .i64 c.q ∧ V[155]?.getD undef = .slice (some ⟨B, 0, none⟩) d.ol.length cap ∧ V[156]?.getD undef = .int .i64 d.ol.length ∧ V[157]?.getD undef = .int .i64 j) ⟨by simp [hW], ?_, by simp [hW, w13'], by simp [hW, w14'], by simp [hW, w34'], by simp [hW, w35'], by simp [hW, w36']⟩ ?_
              · repeat (refine Keeps.put ?_ _ _ (by first | exact .inr ⟨by decide, by decide⟩ | exact .inl (by decide)))
                exact HKW.out
              clear w0 w13' w14' w34' w35' w36' HKW cP4 cP4' fP4' hw6 hW
              clear W2
              rintro Y ⟨hY, hKY, w13, w14, w34, w35, w36⟩
              have y13 : Y[13]'(by omega) = _ := at_of _ w13
              have y14 : Y[14]'(by omega) = _ := at_of _ w14
              have y34 : Y[155]'(by omega) = _ := at_of _ w34
              have y35 : Y[156]'(by omega) = _ := at_of _ w35
              have y36 : Y[157]'(by omega) = _ := at_of _ w36
              have HKY := hidP hKY
              clear hKY w13 w14 w34 w35 w36
              have hin : IntsS w6 d.EB (.slice ta c.xs.length tc) c.xs := by
                refine HE7.out.only HRX.out (fun b _ e => ?_)
                have := OK.out.eP
                have := OK.out.eC
                have := OK.out.eR
                have := OK.out.eLo
                have := OK.out.eLO
                have := OK.out.bP
                rcases e with e | e | e | e | e | e <;> omega
              have c62 : w6.cell? ⟨cb, 2, none⟩ = some (.slice ta c.xs.length tc) := HROWX.out.cell 2 (by omega)
              have cob : w6.cell? ⟨cb, 1, none⟩ = some (.int .i64 c.r) := HROWX.out.cell 1 (by omega)
              have cP3 : w6.cell? ⟨d.P, d.o + 3, none⟩ = some (.slice (some ⟨d.Lo, 0, none⟩) (d.n + 1) (d.n + 1)) := by have := HPSX.out.P.cell (d.o + 3) (by have := OK.out.o5; omega); rwa [if_neg (by omega), OK.out.m3] at this
              have cL3 : w6.cell? ⟨d.Lo, c.q, none⟩ = some (.slice (some ⟨b, 0, none⟩) M M) := by have := HPSX.out.Lo.cell c.q (by omega); rwa [HLVX.out] at this
              go_upto_block 8 with fail
              have hks : ∀ z1 z2 z3 z4, Keeps 12 235 [] T ((((Y.setIfInBounds 212 z1).setIfInBounds 213 z2).setIfInBounds 214 z3).setIfInBounds 215 z4) := fun z1 z2 z3 z4 => by
                repeat (refine Keeps.put ?_ _ _ (by first | exact .inr ⟨by decide, by decide⟩ | exact .inl (by decide)))
                exact HKY.out
              have hbr : Row w6 b 4 M (fun x => .bool (loF d (d.ol.take j) c.q x)) ∧ d.hi ≤ b := by
                rcases HPSX.out.los c.q hq1 hqn with e | ⟨b2, f1, f2, f3, f4⟩
                · rw [HLVX.out] at e
                  cases e.2
                · rw [HLVX.out] at f1
                  injection f1 with f1 f1b
                  injection f1 with f1
                  injection f1 with f1
                  subst f1
                  rw [HMMX.out] at f4
                  exact ⟨f4, f2⟩
              refine set8 d.P d.o d.Lo d.n c.q c.r b M cb d.EB (loF d (d.ol.take j) c.q) c.xs (.slice ta c.xs.length tc) w6 hn6 hqn hr1 (by omega) HPSX.out.P.lt HPSX.out.Lo.lt HROWX.out.lt cP3 cL3 cob hbr.1 (by have := OK.out.bP; omega) (by have := OK.out.bLo; omega) HCBB.out (by have := OK.out.eP; have := OK.out.bP; omega) hin HXM.out hxl _ _ (by simp [hY]) ((hks _ _ _ _).get t0 (by decide) (by decide)) ((hks _ _ _ _).get t11 (by decide) (by decide)) (by simp [hY, y13]) (by simp [hY, y14]) (by simp [hY]) (by simp [hY]) (by simp [hY]) ?_
              intro Z w9 hKZ hb9 ho9
              have hkz : Keeps 12 235 [] T Z := Keeps.trans (hks _ _ _ _) (hKZ.mono (fun i hi => by simp at hi; exact .inr (by omega)) (by decide) (by decide))
              have hZ : Z.size = 236 := hkz.1.trans hT0
              have z34 : Z[155]'(by omega) = .slice (some ⟨B, 0, none⟩) d.ol.length cap := at_of _ (hKZ.get (by simp [hY, y34]) (by decide) (by decide))
              have z35 : Z[156]'(by omega) = .int .i64 d.ol.length := at_of _ (hKZ.get (by simp [hY, y35]) (by decide) (by decide))
              have z36 : Z[157]'(by omega) = .int .i64 j := at_of _ (hKZ.get (by simp [hY, y36]) (by decide) (by decide))
              have hps9 := HPSX.out.setLoB OK.out c.q hq1 hqn b (by rw [HLVX.out, HMMX.out]) ho9 (fun x => loF d (d.ol.take j) c.q x || (c.xs.map (lostX d.n c.r)).contains x) (by rw [HMMX.out]; exact hb9)
              have HPS9 := hidP hps9
              have HR9 := hidP (HRX.out.trans' ho9 (fun x _ e => .inr (.inr (.inr (.inr (.inr (by have := hbr.2; omega)))))))
              have HKZ := hidP hkz
              clear hKZ hkz hb9 ho9 hps9 hks hbr y13 y14 y34 y35 y36 c62 cob cP3 cL3 hin
              go_wp2_with fail
              first | refine ⟨trivial, k - 1, by omega, ?_⟩ | refine ⟨k - 1, by omega, ?_⟩
              rw [HI.out]
              refine ⟨j + 1, by omega, ?_, by simp [hZ, z34, HE1.out], by simp [hZ, z35], by simp [hZ], fav4, (fl ++ [c.q]), loV2, ?_, ?_, ?_, ?_, ?_, ?_, HO.out.trans HR9.out⟩
              · repeat (refine Keeps.put ?_ _ _ (by first | exact .inr ⟨by decide, by decide⟩ | exact .inl (by decide)))
                exact HKZ.out
              · have e1 : loF d (d.ol.take (j + 1)) = fun k => if k = c.q then (fun x => loF d (d.ol.take j) c.q x || (c.xs.map (lostX d.n c.r)).contains x) else loF d (d.ol.take j) k := by
                  funext k x
                  rw [loF_succ d j hj, ← HCE.out]
                  by_cases e : k = c.q
                  · rw [if_pos e.symm, if_pos e, e]
                  · rw [if_neg (Ne.symm e), if_neg e]
                rw [e1, HMMJ.out]
                exact HPS9.out
              · intro q' h2
                rw [hasF_succ d.ol j hj, ← HCE.out, HLV2.out]
                by_cases e : q' = c.q
                · simp [e]
                · have e' : ¬ c.q = q' := fun h => e h.symm
                  simp only [e, e', decide_false, Bool.or_false, if_false]
                  exact HNIL.out q' h2
              · intro h
                simp at h
              · intro q'
                have h1 := HMEM.out q'
                rw [hasF_succ d.ol j hj, ← HCE.out]
                simp only [List.mem_append, List.mem_singleton, Bool.or_eq_true, decide_eq_true_eq]
                rw [h1]
                constructor
                · rintro ((h | h) | h)
                  · exact .inl h
                  · exact .inr ⟨h.1, .inl h.2⟩
                  · exact .inr ⟨by rw [h]; exact hc0, .inr h.symm⟩
                · rintro (h | ⟨h, h' | h'⟩)
                  · exact .inl (.inl h)
                  · exact .inl (.inr ⟨h, h'⟩)
                  · exact .inr h'.symm
              · rw [List.length_append]
                simp only [List.length_cons, List.length_nil]
                omega
              · intro q' hq'
                rcases List.mem_append.1 hq' with h | h
                · exact HFLQ.out q' h
                · rw [List.mem_singleton.1 h]
                  exact ⟨hq1, hqn⟩
            · have hc0' : ((cr c.q : Int) == 0) = false := by simp; omega
              go_upto_if 201 with fail
              refine wp_cond_at false (by simp [Act.eval, hX, hc0]) (fun h => by cases h) (fun _ => ?_)
              go_upto_region 37 with fail
              refine gen_frame (fun V => V.size = 236 ∧ Keeps 12 235 [] T V ∧ V[13]?.getD undef = .pointer (some ⟨cb, 0, none⟩) ∧ V[14]?.getD undef = .int .i64 c.q ∧ V[155]?.getD undef = .slice (some ⟨B, 0, none⟩) d.ol.length cap ∧ V[156]?.getD undef = .int .i64 d.ol.length ∧ V[157]?.getD undef = .int .i64 j) ⟨by simp [hX], ?_, by simp [hX, x13], by simp [hX, x14], by simp [hX, x34], by simp [hX, x35], by simp [hX, x36]⟩ ?_
              · repeat (refine Keeps.put ?_ _ _ (by first | exact .inr ⟨by decide, by decide⟩ | exact .inl (by decide)))
                exact HKX.out
              clear x0 x13 x14 x34 x35 x36 HKX cP1 cC cP4 hX
              clear X
              rintro Y ⟨hY, hKY, w13, w14, w34, w35, w36⟩
              have y13 : Y[13]'(by omega) = _ := at_of _ w13
              have y14 : Y[14]'(by omega) = _ := at_of _ w14
              have y34 : Y[155]'(by omega) = _ := at_of _ w34
              have y35 : Y[156]'(by omega) = _ := at_of _ w35
              have y36 : Y[157]'(by omega) = _ := at_of _ w36
              have HKY := hidP hKY
              have HPSX := hidP HPS5.out
              have HROWX := hidP HROW5.out
              have HRX := hidP HR5.out
              clear hKY w13 w14 w34 w35 w36
              have hin : IntsS w5 d.EB (.slice ta c.xs.length tc) c.xs := by
                refine HE7.out.only HRX.out (fun b _ e => ?_)
                have := OK.out.eP
                have := OK.out.eC
                have := OK.out.eR
                have := OK.out.eLo
                have := OK.out.eLO
                have := OK.out.bP
                rcases e with e | e | e | e | e | e <;> omega
              have c62 : w5.cell? ⟨cb, 2, none⟩ = some (.slice ta c.xs.length tc) := HROWX.out.cell 2 (by omega)
              have cob : w5.cell? ⟨cb, 1, none⟩ = some (.int .i64 c.r) := HROWX.out.cell 1 (by omega)
              have cP3 : w5.cell? ⟨d.P, d.o + 3, none⟩ = some (.slice (some ⟨d.Lo, 0, none⟩) (d.n + 1) (d.n + 1)) := by have := HPSX.out.P.cell (d.o + 3) (by have := OK.out.o5; omega); rwa [if_neg (by omega), OK.out.m3] at this
              have cL3 : w5.cell? ⟨d.Lo, c.q, none⟩ = some (.slice (some ⟨b, 0, none⟩) M M) := by have := HPSX.out.Lo.cell c.q (by omega); rwa [HLVX.out] at this
              go_upto_block 8 with fail
              have hks : ∀ z1 z2 z3 z4, Keeps 12 235 [] T ((((Y.setIfInBounds 212 z1).setIfInBounds 213 z2).setIfInBounds 214 z3).setIfInBounds 215 z4) := fun z1 z2 z3 z4 => by
                repeat (refine Keeps.put ?_ _ _ (by first | exact .inr ⟨by decide, by decide⟩ | exact .inl (by decide)))
                exact HKY.out
              have hbr : Row w5 b 4 M (fun x => .bool (loF d (d.ol.take j) c.q x)) ∧ d.hi ≤ b := by
                rcases HPSX.out.los c.q hq1 hqn with e | ⟨b2, f1, f2, f3, f4⟩
                · rw [HLVX.out] at e
                  cases e.2
                · rw [HLVX.out] at f1
                  injection f1 with f1 f1b
                  injection f1 with f1
                  injection f1 with f1
                  subst f1
                  rw [HMMX.out] at f4
                  exact ⟨f4, f2⟩
              refine set8 d.P d.o d.Lo d.n c.q c.r b M cb d.EB (loF d (d.ol.take j) c.q) c.xs (.slice ta c.xs.length tc) w5 hn6 hqn hr1 (by omega) HPSX.out.P.lt HPSX.out.Lo.lt HROWX.out.lt cP3 cL3 cob hbr.1 (by have := OK.out.bP; omega) (by have := OK.out.bLo; omega) HCBB.out (by have := OK.out.eP; have := OK.out.bP; omega) hin HXM.out hxl _ _ (by simp [hY]) ((hks _ _ _ _).get t0 (by decide) (by decide)) ((hks _ _ _ _).get t11 (by decide) (by decide)) (by simp [hY, y13]) (by simp [hY, y14]) (by simp [hY]) (by simp [hY]) (by simp [hY]) ?_
              intro Z w9 hKZ hb9 ho9
              have hkz : Keeps 12 235 [] T Z := Keeps.trans (hks _ _ _ _) (hKZ.mono (fun i hi => by simp at hi; exact .inr (by omega)) (by decide) (by decide))
              have hZ : Z.size = 236 := hkz.1.trans hT0
              have z34 : Z[155]'(by omega) = .slice (some ⟨B, 0, none⟩) d.ol.length cap := at_of _ (hKZ.get (by simp [hY, y34]) (by decide) (by decide))
              have z35 : Z[156]'(by omega) = .int .i64 d.ol.length := at_of _ (hKZ.get (by simp [hY, y35]) (by decide) (by decide))
              have z36 : Z[157]'(by omega) = .int .i64 j := at_of _ (hKZ.get (by simp [hY, y36]) (by decide) (by decide))
              have hps9 := HPSX.out.setLoB OK.out c.q hq1 hqn b (by rw [HLVX.out, HMMX.out]) ho9 (fun x => loF d (d.ol.take j) c.q x || (c.xs.map (lostX d.n c.r)).contains x) (by rw [HMMX.out]; exact hb9)
              have HPS9 := hidP hps9
              have HR9 := hidP (HRX.out.trans' ho9 (fun x _ e => .inr (.inr (.inr (.inr (.inr (by have := hbr.2; omega)))))))
              have HKZ := hidP hkz
              clear hKZ hkz hb9 ho9 hps9 hks hbr y13 y14 y34 y35 y36 c62 cob cP3 cL3 hin
              go_wp2_with fail
              first | refine ⟨trivial, k - 1, by omega, ?_⟩ | refine ⟨k - 1, by omega, ?_⟩
              rw [HI.out]
              refine ⟨j + 1, by omega, ?_, by simp [hZ, z34, HE1.out], by simp [hZ, z35], by simp [hZ], fav, fl, loV2, ?_, ?_, ?_, ?_, ?_, ?_, HO.out.trans HR9.out⟩
              · repeat (refine Keeps.put ?_ _ _ (by first | exact .inr ⟨by decide, by decide⟩ | exact .inl (by decide)))
                exact HKZ.out
              · have e1 : loF d (d.ol.take (j + 1)) = fun k => if k = c.q then (fun x => loF d (d.ol.take j) c.q x || (c.xs.map (lostX d.n c.r)).contains x) else loF d (d.ol.take j) k := by
                  funext k x
                  rw [loF_succ d j hj, ← HCE.out]
                  by_cases e : k = c.q
                  · rw [if_pos e.symm, if_pos e, e]
                  · rw [if_neg (Ne.symm e), if_neg e]
                rw [e1, HMMJ.out]
                exact HPS9.out
              · intro q' h2
                rw [hasF_succ d.ol j hj, ← HCE.out, HLV2.out]
                by_cases e : q' = c.q
                · simp [e]
                · have e' : ¬ c.q = q' := fun h => e h.symm
                  simp only [e, e', decide_false, Bool.or_false, if_false]
                  exact HNIL.out q' h2
              · exact HFE.out
              · intro q'
                have h1 := HMEM.out q'
                rw [hasF_succ d.ol j hj, ← HCE.out]
                simp only [Bool.or_eq_true, decide_eq_true_eq]
                rw [h1]
                constructor
                · rintro (h | h)
                  · exact .inl h
                  · exact .inr ⟨h.1, .inl h.2⟩
                · rintro (h | ⟨h, h' | h'⟩)
                  · exact .inl h
                  · exact .inr ⟨h, h'⟩
                  · exact absurd (by rw [h']; exact h) hc0
              · omega
              · exact HFLQ.out
        | true =>
          obtain ⟨b, hlvb⟩ : ∃ b, loV c.q = .slice (some ⟨b, 0, none⟩) M M := by
            rcases HPS2.out.los c.q hq1 hqn with e | ⟨b, f1, _⟩
            · have := (HNIL.out c.q hqn).2 e.2
              rw [hh] at this
              cases this
            · refine ⟨b, ?_⟩
              rw [f1]
              unfold mmF
              rw [hh, if_pos rfl, ← HME.out]
          rw [hlvb] at cL
          have heq := sliceEq92'
          have HLVX := hidP hlvb
          have HMMX : Hid (mmF d (d.ol.take j) c.q = M) := hidP (by unfold mmF; rw [hh, if_pos rfl, ← HME.out])
          have hsame : hasF (d.ol.take (j + 1)) = hasF (d.ol.take j) := by
            funext k
            rw [hasF_succ d.ol j hj, ← HCE.out]
            by_cases e : c.q = k
            · rw [← e, hh]
              rfl
            · simp [e]
          have HSAME := hidP hsame
          have HMMJ : Hid (mmF d (d.ol.take (j + 1)) = mmF d (d.ol.take j)) := hidP (by
            funext k
            unfold mmF
            rw [hsame])
          have HCBB : Hid (cb ≠ b) := hidP (by
            rcases HPS.out.los c.q hq1 hqn with e | ⟨b2, f1, f2, f3, f4⟩
            · rw [hlvb] at e
              cases e.2
            · rw [hlvb] at f1
              injection f1 with f1
              injection f1 with f1
              injection f1 with f1
              have := f4.lt
              have := HCB.out
              omega)
          clear hlvb hsame
          go_upto_if 177 with fail
          refine wp_cond_at false (by simp [Act.eval, hV]) (fun h => by cases h) (fun _ => ?_)
          go_upto_region 37 with fail
          refine gen_frame (fun V => V.size = 236 ∧ Keeps 12 235 [] T V ∧ V[13]?.getD undef = .pointer (some ⟨cb, 0, none⟩) ∧ V[14]?.getD undef = .int .i64 c.q ∧ V[155]?.getD undef = .slice (some ⟨B, 0, none⟩) d.ol.length cap ∧ V[156]?.getD undef = .int .i64 d.ol.length ∧ V[157]?.getD undef = .int .i64 j) ⟨by simp [hV], ?_, by simp [hV, v13], by simp [hV], by simp [hV, v34], by simp [hV, v35], by simp [hV, v36]⟩ ?_
          · repeat (refine Keeps.put ?_ _ _ (by first | exact .inr ⟨by decide, by decide⟩ | exact .inl (by decide)))
            exact HKV.out
          clear v0 v13 v34 v35 v36 HKV cR0 cP3 cL b167 hV heq
          clear V
          rintro Y ⟨hY, hKY, w13, w14, w34, w35, w36⟩
          have y13 : Y[13]'(by omega) = _ := at_of _ w13
          have y14 : Y[14]'(by omega) = _ := at_of _ w14
          have y34 : Y[155]'(by omega) = _ := at_of _ w34
          have y35 : Y[156]'(by omega) = _ := at_of _ w35
          have y36 : Y[157]'(by omega) = _ := at_of _ w36
          have HKY := hidP hKY
          have HPSX := hidP HPS2.out
          have HROWX := hidP HROW2.out
          have HRX := hidP HR2.out
          clear hKY w13 w14 w34 w35 w36
          have hin : IntsS w2 d.EB (.slice ta c.xs.length tc) c.xs := by
            refine HE7.out.only HRX.out (fun b _ e => ?_)
            have := OK.out.eP
            have := OK.out.eC
            have := OK.out.eR
            have := OK.out.eLo
            have := OK.out.eLO
            have := OK.out.bP
            rcases e with e | e | e | e | e | e <;> omega
          have c62 : w2.cell? ⟨cb, 2, none⟩ = some (.slice ta c.xs.length tc) := HROWX.out.cell 2 (by omega)
          have cob : w2.cell? ⟨cb, 1, none⟩ = some (.int .i64 c.r) := HROWX.out.cell 1 (by omega)
          have cP3 : w2.cell? ⟨d.P, d.o + 3, none⟩ = some (.slice (some ⟨d.Lo, 0, none⟩) (d.n + 1) (d.n + 1)) := by have := HPSX.out.P.cell (d.o + 3) (by have := OK.out.o5; omega); rwa [if_neg (by omega), OK.out.m3] at this
          have cL3 : w2.cell? ⟨d.Lo, c.q, none⟩ = some (.slice (some ⟨b, 0, none⟩) M M) := by have := HPSX.out.Lo.cell c.q (by omega); rwa [HLVX.out] at this
          go_upto_block 8 with fail
          have hks : ∀ z1 z2 z3 z4, Keeps 12 235 [] T ((((Y.setIfInBounds 212 z1).setIfInBounds 213 z2).setIfInBounds 214 z3).setIfInBounds 215 z4) := fun z1 z2 z3 z4 => by
            repeat (refine Keeps.put ?_ _ _ (by first | exact .inr ⟨by decide, by decide⟩ | exact .inl (by decide)))
            exact HKY.out
          have hbr : Row w2 b 4 M (fun x => .bool (loF d (d.ol.take j) c.q x)) ∧ d.hi ≤ b := by
            rcases HPSX.out.los c.q hq1 hqn with e | ⟨b2, f1, f2, f3, f4⟩
            · rw [HLVX.out] at e
              cases e.2
            · rw [HLVX.out] at f1
              injection f1 with f1 f1b
              injection f1 with f1
              injection f1 with f1
              subst f1
              rw [HMMX.out] at f4
              exact ⟨f4, f2⟩
          refine set8 d.P d.o d.Lo d.n c.q c.r b M cb d.EB (loF d (d.ol.take j) c.q) c.xs (.slice ta c.xs.length tc) w2 hn6 hqn hr1 (by omega) HPSX.out.P.lt HPSX.out.Lo.lt HROWX.out.lt cP3 cL3 cob hbr.1 (by have := OK.out.bP; omega) (by have := OK.out.bLo; omega) HCBB.out (by have := OK.out.eP; have := OK.out.bP; omega) hin HXM.out hxl _ _ (by simp [hY]) ((hks _ _ _ _).get t0 (by decide) (by decide)) ((hks _ _ _ _).get t11 (by decide) (by decide)) (by simp [hY, y13]) (by simp [hY, y14]) (by simp [hY]) (by simp [hY]) (by simp [hY]) ?_
          intro Z w9 hKZ hb9 ho9
          have hkz : Keeps 12 235 [] T Z := Keeps.trans (hks _ _ _ _) (hKZ.mono (fun i hi => by simp at hi; exact .inr (by omega)) (by decide) (by decide))
          have hZ : Z.size = 236 := hkz.1.trans hT0
          have z34 : Z[155]'(by omega) = .slice (some ⟨B, 0, none⟩) d.ol.length cap := at_of _ (hKZ.get (by simp [hY, y34]) (by decide) (by decide))
          have z35 : Z[156]'(by omega) = .int .i64 d.ol.length := at_of _ (hKZ.get (by simp [hY, y35]) (by decide) (by decide))
          have z36 : Z[157]'(by omega) = .int .i64 j := at_of _ (hKZ.get (by simp [hY, y36]) (by decide) (by decide))
          have hps9 := HPSX.out.setLoB OK.out c.q hq1 hqn b (by rw [HLVX.out, HMMX.out]) ho9 (fun x => loF d (d.ol.take j) c.q x || (c.xs.map (lostX d.n c.r)).contains x) (by rw [HMMX.out]; exact hb9)
          have HPS9 := hidP hps9
          have HR9 := hidP (HRX.out.trans' ho9 (fun x _ e => .inr (.inr (.inr (.inr (.inr (by have := hbr.2; omega)))))))
          have HKZ := hidP hkz
          clear hKZ hkz hb9 ho9 hps9 hks hbr y13 y14 y34 y35 y36 c62 cob cP3 cL3 hin
          go_wp2_with fail
          first | refine ⟨trivial, k - 1, by omega, ?_⟩ | refine ⟨k - 1, by omega, ?_⟩
          rw [HI.out]
          refine ⟨j + 1, by omega, ?_, by simp [hZ, z34, HE1.out], by simp [hZ, z35], by simp [hZ], fav, fl, loV, ?_, ?_, ?_, ?_, ?_, ?_, HO.out.trans HR9.out⟩
          · repeat (refine Keeps.put ?_ _ _ (by first | exact .inr ⟨by decide, by decide⟩ | exact .inl (by decide)))
            exact HKZ.out
          · have e1 : loF d (d.ol.take (j + 1)) = fun k => if k = c.q then (fun x => loF d (d.ol.take j) c.q x || (c.xs.map (lostX d.n c.r)).contains x) else loF d (d.ol.take j) k := by
              funext k x
              rw [loF_succ d j hj, ← HCE.out]
              by_cases e : k = c.q
              · rw [if_pos e.symm, if_pos e, e]
              · rw [if_neg (Ne.symm e), if_neg e]
            rw [e1, HMMJ.out]
            exact HPS9.out
          · rw [HSAME.out]
            exact HNIL.out
          · exact HFE.out
          · rw [HSAME.out]
            exact HMEM.out
          · omega
          · exact HFLQ.out
    · have hj : j = d.ol.length := by have := of_decide_eq_false h; omega
      clear h
      go_wp2_with fail
      subst hj
      have hps := HPS.out
      have hmem := HMEM.out
      have hnil := HNIL.out
      rw [List.take_length] at hps hmem hnil
      refine HQ.out _ _ fav fl loV ?_ hps hmem (by omega) HFLQ.out hnil HFE.out HO.out
      repeat (refine Keeps.put ?_ _ _ (by first | exact .inr ⟨by decide, by decide⟩ | exact .inl (by decide)))
      exact HK.out
  · rw [HI.out]
    refine ⟨0, by omega, Keeps.refl, t155, t156, t157, fav0, fl0, fun _ => .slice none 0 0, ?_, fun q _ => ?_, hfe0, fun q => ?_, by omega, HFL0.out, Only.refl⟩
    · exact HPS0.out
    · simp [hasF]
    · simp [hasF]
end Go.Proofs.Ybulkcawy
