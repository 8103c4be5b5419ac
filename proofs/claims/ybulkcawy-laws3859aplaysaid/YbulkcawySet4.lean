/-
  set's loop over the omissions that finds the last round that each process omits in.
-/
import Derived.Test.YbulkcawySet0
namespace Go.Proofs.Ybulkcawy
open Go.RowKit
set_option linter.unusedSimpArgs false
set_option linter.unusedVariables false
set_option maxRecDepth 100000
set_option maxHeartbeats 4000000

def lovF (ol : List Fail) (q : Nat) : Nat := ol.foldl (fun m o => if o.q = q then Nat.max m o.r else m) 0
theorem lovF_succ (ol : List Fail) (j : Nat) (hj : j < ol.length) (q : Nat) : lovF (ol.take (j + 1)) q = if ol[j].q = q then Nat.max (lovF (ol.take j) q) ol[j].r else lovF (ol.take j) q := by
  have e : ol.take (j + 1) = ol.take j ++ [ol[j]] := by simp
  unfold lovF
  rw [e, List.foldl_append]
  rfl
theorem foldl_ge (ol : List Fail) (q m : Nat) : m ≤ ol.foldl (fun m o => if o.q = q then Nat.max m o.r else m) m := by
  induction ol generalizing m with
  | nil => exact Nat.le_refl _
  | cons o ol ih =>
    refine Nat.le_trans ?_ (ih _)
    dsimp only
    split
    · exact Nat.le_max_left _ _
    · exact Nat.le_refl _
theorem lovF_ge (ol : List Fail) (o : Fail) (h : o ∈ ol) : o.r ≤ lovF ol o.q := by
  unfold lovF
  generalize 0 = m
  induction ol generalizing m with
  | nil => cases h
  | cons x ol ih =>
    rcases List.mem_cons.1 h with h | h
    · subst h
      refine Nat.le_trans ?_ (foldl_ge ol o.q _)
      dsimp only
      rw [if_pos rfl]
      exact Nat.le_max_right _ _
    · exact ih h _
theorem lovF_le (ol : List Fail) (q L : Nat) (h : ∀ o ∈ ol, o.r ≤ L) : lovF ol q ≤ L := by
  unfold lovF
  have : ∀ m, m ≤ L → ol.foldl (fun m o => if o.q = q then Nat.max m o.r else m) m ≤ L := by
    induction ol with
    | nil => intro m hm; exact hm
    | cons x ol ih =>
      intro m hm
      refine ih (fun o ho => h o (by simp [ho])) _ ?_
      dsimp only
      split
      · exact Nat.max_le.2 ⟨hm, h x (by simp)⟩
      · exact hm
  exact this 0 (Nat.zero_le _)

theorem set4 (d : SB) (role : Nat → Nat) (ok : SBok d role) (fav : Value) (fl : List Nat) (cr : Nat → Nat) (reV : Nat → Value) (re : Nat → Nat → Bool) (loV : Nat → Value) (mm : Nat → Nat) (lo0 : Nat → Nat → Bool) (w : World) (hps : PS d w fav fl cr reV re loV (fun _ => 0) mm lo0) (T : Array Value) (Q : Exit → Act → World → Prop) (hT0 : T.size = 236)
    (t0 : T[0]?.getD undef = .pointer (some ⟨d.P, d.o, none⟩)) (t117 : T[117]?.getD undef = d.ov) (t118 : T[118]?.getD undef = .int .i64 d.ol.length) (t119 : T[119]?.getD undef = .int .i64 0)
    (hQ : ∀ T' w', Keeps 4 235 [] T T' → PS d w' fav fl cr reV re loV (lovF d.ol) mm lo0 → Only (SetS d) w w' → Q .normal ⟨T', []⟩ w') : (blkOf Yba.f23 4).wp Yba.prog Q ⟨T, []⟩ w := by
  conv in (blkOf Yba.f23 4) => whnf
  refine wp_block ?_
  have HQ := hidP hQ
  have OK := hidP ok
  have HPS0 := hidP hps
  have hn6 := ok.n6
  have hl5 := ok.l5
  have hcln := ok.oln
  clear hQ ok hps
  obtain ⟨I, hI⟩ : ∃ I : Nat → Array Value → World → Prop, I = (fun k T2 wr => ∃ j, j + k = d.ol.length ∧ Keeps 4 235 [] T T2 ∧ T2[117]?.getD undef = d.ov ∧ T2[118]?.getD undef = .int .i64 d.ol.length ∧ T2[119]?.getD undef = .int .i64 j ∧ PS d wr fav fl cr reV re loV (lovF (d.ol.take j)) mm lo0 ∧ Only (SetS d) w wr) := ⟨_, rfl⟩
  have HI := hidP hI
  clear hI
  refine wp_loop_n I ?_ d.ol.length _ _ ?_
  · intro k T2 wr hIk
    rw [HI.out] at hIk
    obtain ⟨j, hjk, hK, u34, u35, u36, hps, ho⟩ := hIk
    have hT : T2.size = 236 := hK.1.trans hT0
    have a34 : T2[117]'(by omega) = _ := at_of _ u34
    have a35 : T2[118]'(by omega) = _ := at_of _ u35
    have a36 : T2[119]'(by omega) = _ := at_of _ u36
    have HK := hidP hK
    have HPS := hidP hps
    have HO := hidP ho
    clear hK u34 u35 u36 hps ho
    go_upto_if 120 with fail
    refine wp_cond_at (decide (j < d.ol.length)) (by simp [Act.eval, hT]) (fun h => ?_) (fun h => ?_)
    · have hj : j < d.ol.length := of_decide_eq_true h
      clear h
      obtain ⟨c, hce⟩ : ∃ c, c = d.ol[j] := ⟨_, rfl⟩
      obtain ⟨B, cap, e1, e2, e3, e4, e5, ta, tc, e6, e7⟩ := HPS.out.os.some hj
      rw [← hce] at e4 e5 e6 e7
      obtain ⟨hq1, hqn, hr1, hrl, hxl, hxi⟩ := OK.out.olq c (by rw [hce]; exact List.getElem_mem hj)
      rw [e1] at a34
      have i0a : (0 : Int) ≤ (j : Int) := by omega
      have i0b : (j : Int) < (d.ol.length : Int) := by omega
      have HCE := hidP hce
      have HE1 := hidP e1
      refine gen_frame (fun U => U.size = 236 ∧ Keeps 4 235 [] T U ∧ U[117]?.getD undef = .slice (some ⟨B, 0, none⟩) d.ol.length cap ∧ U[118]?.getD undef = .int .i64 d.ol.length ∧ U[119]?.getD undef = .int .i64 j) ⟨by simp [hT], ?_, by simp [hT, a34], by simp [hT, a35], by simp [hT, a36]⟩ ?_
      · repeat (refine Keeps.put ?_ _ _ (by first | exact .inr ⟨by decide, by decide⟩ | exact .inl (by decide)))
        exact HK.out
      rintro U ⟨hU, hKU, u34, u35, u36⟩
      have b34 : U[117]'(by omega) = _ := at_of _ u34
      have b35 : U[118]'(by omega) = _ := at_of _ u35
      have b36 : U[119]'(by omega) = _ := at_of _ u36
      have HKU := hidP hKU
      clear hKU u34 u35 u36 a34 a35 a36 hT hce e1 e7 hxi
      obtain ⟨cb, hcb⟩ : ∃ cb, cb = wr.heap.size := ⟨_, rfl⟩
      have HCB := hidP hcb
      go_upto_region 24 with fail
      have hrow : Row (wr.alloc (.cells #[.int .i64 c.q, .int .i64 c.r, .slice ta c.xs.length tc] 36)) wr.heap.size 36 3 (fun k => if k = 0 then .int .i64 c.q else if k = 1 then .int .i64 c.r else .slice ta c.xs.length tc) := by
        refine (Row.newL wr [.int .i64 c.q, .int .i64 c.r, .slice ta c.xs.length tc] 36).ext fun x hx => ?_
        have hx' : x < 3 := hx
        rcases (by omega : x = 0 ∨ x = 1 ∨ x = 2) with rfl | rfl | rfl <;> simp
      have hon : Only (fun _ => False) wr (wr.alloc (.cells #[.int .i64 c.q, .int .i64 c.r, .slice ta c.xs.length tc] 36)) := Only.refl.alloc _
      refine gen_both (fun U w' => U.size = 236 ∧ Keeps 4 235 [] T U ∧ U[10]?.getD undef = .pointer (some ⟨wr.heap.size, 0, none⟩) ∧ U[117]?.getD undef = .slice (some ⟨B, 0, none⟩) d.ol.length cap ∧ U[118]?.getD undef = .int .i64 d.ol.length ∧ U[119]?.getD undef = .int .i64 j ∧ Row w' wr.heap.size 36 3 (fun k => if k = 0 then .int .i64 c.q else if k = 1 then .int .i64 c.r else .slice ta c.xs.length tc) ∧ Only (fun _ => False) wr w') ⟨by simp [hU], ?_, by simp [hU], by simp [hU, b34], by simp [hU, b35], by simp [hU, b36], hrow, hon⟩ ?_
      · repeat (refine Keeps.put ?_ _ _ (by first | exact .inr ⟨by decide, by decide⟩ | exact .inl (by decide)))
        exact HKU.out
      clear hrow hon b34 b35 b36 HKU hU
      clear U
      rintro U w1a ⟨hU, hKU, u10, u34, u35, u36, hrow, hon⟩
      have hcb' := HCB.out
      rw [← hcb'] at u10 hrow
      have hps1 := HPS.out.same OK.out hon
      have HPS1 := hidP hps1
      have HROW := hidP hrow
      have HON := hidP hon
      have HKU := hidP hKU
      have u0 := hKU.get t0 (by decide) (by decide)
      have cR1 : w1a.cell? ⟨cb, 1, none⟩ = some (.int .i64 c.r) := hrow.cell 1 (by omega)
      have cP0 : w1a.cell? ⟨d.P, d.o, none⟩ = some (.int .i64 d.last) := by have := hps1.P.cell d.o (by have := OK.out.o5; omega); rwa [if_neg (by omega), OK.out.m0] at this
      have hcmp : c.r ≤ d.last := hrl
      clear hKU hps1 hrow hon hcb hcb' e4 e5 e6 i0a i0b
      refine region_chain (by kernel_rfl) _ 236 hU [some (.pointer (some ⟨cb, 1, none⟩)), some (.int .i64 c.r), some (.pointer (some ⟨d.P, d.o, none⟩)), some (.pointer (some ⟨d.P, d.o, none⟩)), some (.pointer (some ⟨d.P, d.o, none⟩)), some (.int .i64 d.last), some (.bool true)] [] (fun _ w1 => w1 = w1a.drew) (by decide) (by decide) (by decide) (by decide) (by decide) (by decide) ?_ ?_ ?_ rfl
      · intro i hi U vs w1 hia hU hK hSt hanc hdep
        have hw1 : w1 = w1a.drew := hSt
        subst hw1
        have q1 : w1a.drew.cell? ⟨cb, 1, none⟩ = some (.int .i64 c.r) := cR1
        have q2 : w1a.drew.cell? ⟨d.P, d.o, none⟩ = some (.int .i64 d.last) := cP0
        have hi' : i < 7 := hi
        rcases (by omega : i = 0 ∨ i = 1 ∨ i = 2 ∨ i = 3 ∨ i = 4 ∨ i = 5 ∨ i = 6) with rfl | rfl | rfl | rfl | rfl | rfl | rfl
        · have hx5 : U[10]?.getD undef = .pointer (some ⟨cb, 0, none⟩) := kept_of hK 10 (by decide) (by assumption)
          refine step_of_run (v := .pointer (some ⟨cb, 1, none⟩)) (w' := _) ?_ ⟨rfl, _, rfl, (fun h => by cases h), rfl⟩
          simp [execOp, go_sem, hx5, q1, q2, hcmp]
        · have d0 : U[123]?.getD undef = .pointer (some ⟨cb, 1, none⟩) := slot_of (chain_of (hdep ⟨0, .data⟩ (by simp) rfl (by decide)) rfl) rfl
          refine step_of_run (v := .int .i64 c.r) (w' := _) ?_ ⟨rfl, _, rfl, (fun h => by cases h), rfl⟩
          simp [execOp, go_sem, d0, q1, q2, hcmp]
        · have hx0 : U[0]?.getD undef = .pointer (some ⟨d.P, d.o, none⟩) := kept_of hK 0 (by decide) (by assumption)
          refine step_of_run (v := .pointer (some ⟨d.P, d.o, none⟩)) (w' := _) ?_ ⟨rfl, _, rfl, (fun h => by cases h), rfl⟩
          simp [execOp, go_sem, hx0, q1, q2, hcmp]
        · have d2 : U[125]?.getD undef = .pointer (some ⟨d.P, d.o, none⟩) := slot_of (chain_of (hdep ⟨2, .data⟩ (by simp) rfl (by decide)) rfl) rfl
          refine step_of_run (v := .pointer (some ⟨d.P, d.o, none⟩)) (w' := _) ?_ ⟨rfl, _, rfl, (fun h => by cases h), rfl⟩
          simp [execOp, go_sem, d2, q1, q2, hcmp]
        · have d3 : U[126]?.getD undef = .pointer (some ⟨d.P, d.o, none⟩) := slot_of (chain_of (hdep ⟨3, .data⟩ (by simp) rfl (by decide)) rfl) rfl
          refine step_of_run (v := .pointer (some ⟨d.P, d.o, none⟩)) (w' := _) ?_ ⟨rfl, _, rfl, (fun h => by cases h), rfl⟩
          simp [execOp, go_sem, d3, q1, q2, hcmp]
        · have d4 : U[127]?.getD undef = .pointer (some ⟨d.P, d.o, none⟩) := slot_of (chain_of (hdep ⟨4, .data⟩ (by simp) rfl (by decide)) rfl) rfl
          refine step_of_run (v := .int .i64 d.last) (w' := _) ?_ ⟨rfl, _, rfl, (fun h => by cases h), rfl⟩
          simp [execOp, go_sem, d4, q1, q2, hcmp]
        · have d1 : U[124]?.getD undef = .int .i64 c.r := slot_of (chain_of (hdep ⟨1, .data⟩ (by simp) rfl (by decide)) rfl) rfl
          have d5 : U[128]?.getD undef = .int .i64 d.last := slot_of (chain_of (hdep ⟨5, .data⟩ (by simp) rfl (by decide)) rfl) rfl
          refine step_of_run (v := .bool true) (w' := _) ?_ ⟨rfl, _, rfl, (fun h => by cases h), rfl⟩
          simp [execOp, go_sem, d1, d5, q1, q2, hcmp]
      · intro j hj hi U vs w1 hlen hU hK hSt hdep hprev
        have hj' : j < 0 := hj
        omega
      · intro V vs w2 hV hKV hlen2 hSt hval hall
        have hw2 : w2 = w1a.drew := hSt
        have b129 : V[129]?.getD undef = .bool true := slot_of (chain_of (hall 6 (by decide) (by decide)) rfl) rfl
        have hKV2 := Keeps.trans HKU.out (Kept.keeps (lo := 4) (hi := 235) (vs := []) hKV (hV.trans hU.symm) (by decide))
        have v10 : V[10]?.getD undef = .pointer (some ⟨cb, 0, none⟩) := kept_of hKV 10 (by decide) u10
        have v34 : V[117]?.getD undef = .slice (some ⟨B, 0, none⟩) d.ol.length cap := kept_of hKV 117 (by decide) u34
        have v35 : V[118]?.getD undef = .int .i64 d.ol.length := kept_of hKV 118 (by decide) u35
        have v36 : V[119]?.getD undef = .int .i64 j := kept_of hKV 119 (by decide) u36
        have v0 := hKV2.get t0 (by decide) (by decide)
        have hod : Only (fun _ => False) w1a w2 := by rw [hw2]; exact Only.refl.drew
        have HPS2 := hidP (HPS1.out.same OK.out hod)
        have HROW2 := hidP (HROW.out.only hod (fun h => h))
        have HR2 : Hid (Only (SetS d) wr w2) := hidP ((HON.out.trans hod).mono (fun _ _ h => h.elim))
        have HKV := hidP hKV2
        clear hKV hSt hval hall hKV2 u0 u10 u34 u35 u36 cR1 cP0 hod hw2 hcmp
        go_upto_if 129 with fail
        refine wp_cond_at true (by simpa [Act.eval] using b129) (fun _ => ?_) (fun h => by cases h)
        have cR0 : w2.cell? ⟨cb, 0, none⟩ = some (.int .i64 c.q) := HROW2.out.cell 0 (by omega)
        have cR1 : w2.cell? ⟨cb, 1, none⟩ = some (.int .i64 c.r) := HROW2.out.cell 1 (by omega)
        have cP5 : w2.cell? ⟨d.P, d.o + 5, none⟩ = some (.slice (some ⟨d.LO, 0, none⟩) (d.n + 1) (d.n + 1)) := by have := HPS2.out.P.cell (d.o + 5) (by have := OK.out.o5; omega); rwa [if_neg (by omega), OK.out.m5] at this
        obtain ⟨lv, hlv⟩ : ∃ lv, lv = lovF (d.ol.take j) c.q := ⟨_, rfl⟩
        obtain ⟨mx, hmx⟩ : ∃ mx, mx = Nat.max lv c.r := ⟨_, rfl⟩
        have cC : w2.cell? ⟨d.LO, c.q, none⟩ = some (.int .i64 lv) := by rw [hlv]; exact HPS2.out.LO.cell c.q (by omega)
        have fC := HPS2.out.LO.frozen c.q
        have i1 : (0 : Int) ≤ (c.q : Int) := by omega
        have i2 : (c.q : Int) < (d.n : Int) + 1 := by omega
        have hmax : (if lv < c.r then (c.r : Int) else (lv : Int)) = (mx : Int) := by
          rw [hmx]
          show _ = ((max lv c.r : Nat) : Int)
          split <;> omega
        have HLV := hidP hlv
        have HMX := hidP hmx
        clear hlv hmx
        refine region_chain (by kernel_rfl) _ 236 hV [some (.pointer (some ⟨d.P, d.o, none⟩)), some (.pointer (some ⟨d.P, d.o, none⟩)), some (.pointer (some ⟨d.P, d.o + 5, none⟩)), some (.slice (some ⟨d.LO, 0, none⟩) (d.n + 1) (d.n + 1)), some (.pointer (some ⟨cb, 0, none⟩)), some (.int .i64 c.q), some (.pointer (some ⟨d.P, d.o, none⟩)), some (.pointer (some ⟨d.P, d.o, none⟩)), some (.pointer (some ⟨d.P, d.o + 5, none⟩)), some (.slice (some ⟨d.LO, 0, none⟩) (d.n + 1) (d.n + 1)), some (.pointer (some ⟨cb, 0, none⟩)), some (.int .i64 c.q), some (.pointer (some ⟨d.LO, c.q, none⟩)), some (.int .i64 lv), some (.pointer (some ⟨cb, 1, none⟩)), some (.int .i64 c.r), some (.int .i64 mx), none, none] [17, 18] (fun vs w1 => match vs with | [] => w1 = w2.drew | [v] => v = .pointer (some ⟨d.LO, c.q, none⟩) ∧ w1 = w2.drew | _ => w1 = w2.drew.setCell ⟨d.LO, c.q, none⟩ (.int .i64 mx)) (by decide) (by decide) (by decide) (by decide) (by decide) (by decide) ?_ ?_ ?_ rfl
        · intro i hi U vs w1 hia hU hK hSt hanc hdep
          have hi' : i < 19 := hi
          rcases (by omega : i = 0 ∨ i = 1 ∨ i = 2 ∨ i = 3 ∨ i = 4 ∨ i = 5 ∨ i = 6 ∨ i = 7 ∨ i = 8 ∨ i = 9 ∨ i = 10 ∨ i = 11 ∨ i = 12 ∨ i = 13 ∨ i = 14 ∨ i = 15 ∨ i = 16 ∨ i = 17 ∨ i = 18) with rfl | rfl | rfl | rfl | rfl | rfl | rfl | rfl | rfl | rfl | rfl | rfl | rfl | rfl | rfl | rfl | rfl | rfl | rfl
          · have hvl := hanc 1 (by decide) (by decide)
            have hw1 : w1 = w2.drew := by
              match vs, hSt, hvl with
              | [], h, _ => exact h
              | [v], h, _ => exact h.2
            subst hw1
            have q1 : w2.drew.cell? ⟨cb, 1, none⟩ = some (.int .i64 c.r) := cR1
            have q0 : w2.drew.cell? ⟨cb, 0, none⟩ = some (.int .i64 c.q) := cR0
            have q2 : w2.drew.cell? ⟨d.P, d.o + 5, none⟩ = some (.slice (some ⟨d.LO, 0, none⟩) (d.n + 1) (d.n + 1)) := cP5
            have q3 : w2.drew.cell? ⟨d.LO, c.q, none⟩ = some (.int .i64 lv) := cC
            have hx0 : U[0]?.getD undef = .pointer (some ⟨d.P, d.o, none⟩) := kept_of hK 0 (by decide) (by assumption)
            refine step_of_run (v := .pointer (some ⟨d.P, d.o, none⟩)) (w' := _) ?_ ⟨rfl, _, rfl, (fun h => by cases h), rfl⟩
            simp [execOp, go_sem, hx0, q0, q1, q2, q3, i1, i2, hmax]
          · have hvl := hanc 1 (by decide) (by decide)
            have hw1 : w1 = w2.drew := by
              match vs, hSt, hvl with
              | [], h, _ => exact h
              | [v], h, _ => exact h.2
            subst hw1
            have q1 : w2.drew.cell? ⟨cb, 1, none⟩ = some (.int .i64 c.r) := cR1
            have q0 : w2.drew.cell? ⟨cb, 0, none⟩ = some (.int .i64 c.q) := cR0
            have q2 : w2.drew.cell? ⟨d.P, d.o + 5, none⟩ = some (.slice (some ⟨d.LO, 0, none⟩) (d.n + 1) (d.n + 1)) := cP5
            have q3 : w2.drew.cell? ⟨d.LO, c.q, none⟩ = some (.int .i64 lv) := cC
            have d0 : U[130]?.getD undef = .pointer (some ⟨d.P, d.o, none⟩) := slot_of (chain_of (hdep ⟨0, .data⟩ (by simp) rfl (by decide)) rfl) rfl
            refine step_of_run (v := .pointer (some ⟨d.P, d.o, none⟩)) (w' := _) ?_ ⟨rfl, _, rfl, (fun h => by cases h), rfl⟩
            simp [execOp, go_sem, d0, q0, q1, q2, q3, i1, i2, hmax]
          · have hvl := hanc 1 (by decide) (by decide)
            have hw1 : w1 = w2.drew := by
              match vs, hSt, hvl with
              | [], h, _ => exact h
              | [v], h, _ => exact h.2
            subst hw1
            have q1 : w2.drew.cell? ⟨cb, 1, none⟩ = some (.int .i64 c.r) := cR1
            have q0 : w2.drew.cell? ⟨cb, 0, none⟩ = some (.int .i64 c.q) := cR0
            have q2 : w2.drew.cell? ⟨d.P, d.o + 5, none⟩ = some (.slice (some ⟨d.LO, 0, none⟩) (d.n + 1) (d.n + 1)) := cP5
            have q3 : w2.drew.cell? ⟨d.LO, c.q, none⟩ = some (.int .i64 lv) := cC
            have d1 : U[131]?.getD undef = .pointer (some ⟨d.P, d.o, none⟩) := slot_of (chain_of (hdep ⟨1, .data⟩ (by simp) rfl (by decide)) rfl) rfl
            refine step_of_run (v := .pointer (some ⟨d.P, d.o + 5, none⟩)) (w' := _) ?_ ⟨rfl, _, rfl, (fun h => by cases h), rfl⟩
            simp [execOp, go_sem, d1, q0, q1, q2, q3, i1, i2, hmax]
          · have hvl := hanc 1 (by decide) (by decide)
            have hw1 : w1 = w2.drew := by
              match vs, hSt, hvl with
              | [], h, _ => exact h
              | [v], h, _ => exact h.2
            subst hw1
            have q1 : w2.drew.cell? ⟨cb, 1, none⟩ = some (.int .i64 c.r) := cR1
            have q0 : w2.drew.cell? ⟨cb, 0, none⟩ = some (.int .i64 c.q) := cR0
            have q2 : w2.drew.cell? ⟨d.P, d.o + 5, none⟩ = some (.slice (some ⟨d.LO, 0, none⟩) (d.n + 1) (d.n + 1)) := cP5
            have q3 : w2.drew.cell? ⟨d.LO, c.q, none⟩ = some (.int .i64 lv) := cC
            have d2 : U[132]?.getD undef = .pointer (some ⟨d.P, d.o + 5, none⟩) := slot_of (chain_of (hdep ⟨2, .data⟩ (by simp) rfl (by decide)) rfl) rfl
            refine step_of_run (v := .slice (some ⟨d.LO, 0, none⟩) (d.n + 1) (d.n + 1)) (w' := _) ?_ ⟨rfl, _, rfl, (fun h => by cases h), rfl⟩
            simp [execOp, go_sem, d2, q0, q1, q2, q3, i1, i2, hmax]
          · have hvl := hanc 1 (by decide) (by decide)
            have hw1 : w1 = w2.drew := by
              match vs, hSt, hvl with
              | [], h, _ => exact h
              | [v], h, _ => exact h.2
            subst hw1
            have q1 : w2.drew.cell? ⟨cb, 1, none⟩ = some (.int .i64 c.r) := cR1
            have q0 : w2.drew.cell? ⟨cb, 0, none⟩ = some (.int .i64 c.q) := cR0
            have q2 : w2.drew.cell? ⟨d.P, d.o + 5, none⟩ = some (.slice (some ⟨d.LO, 0, none⟩) (d.n + 1) (d.n + 1)) := cP5
            have q3 : w2.drew.cell? ⟨d.LO, c.q, none⟩ = some (.int .i64 lv) := cC
            have hx10 : U[10]?.getD undef = .pointer (some ⟨cb, 0, none⟩) := kept_of hK 10 (by decide) (by assumption)
            refine step_of_run (v := .pointer (some ⟨cb, 0, none⟩)) (w' := _) ?_ ⟨rfl, _, rfl, (fun h => by cases h), rfl⟩
            simp [execOp, go_sem, hx10, q0, q1, q2, q3, i1, i2, hmax]
          · have hvl := hanc 1 (by decide) (by decide)
            have hw1 : w1 = w2.drew := by
              match vs, hSt, hvl with
              | [], h, _ => exact h
              | [v], h, _ => exact h.2
            subst hw1
            have q1 : w2.drew.cell? ⟨cb, 1, none⟩ = some (.int .i64 c.r) := cR1
            have q0 : w2.drew.cell? ⟨cb, 0, none⟩ = some (.int .i64 c.q) := cR0
            have q2 : w2.drew.cell? ⟨d.P, d.o + 5, none⟩ = some (.slice (some ⟨d.LO, 0, none⟩) (d.n + 1) (d.n + 1)) := cP5
            have q3 : w2.drew.cell? ⟨d.LO, c.q, none⟩ = some (.int .i64 lv) := cC
            have d4 : U[134]?.getD undef = .pointer (some ⟨cb, 0, none⟩) := slot_of (chain_of (hdep ⟨4, .data⟩ (by simp) rfl (by decide)) rfl) rfl
            refine step_of_run (v := .int .i64 c.q) (w' := _) ?_ ⟨rfl, _, rfl, (fun h => by cases h), rfl⟩
            simp [execOp, go_sem, d4, q0, q1, q2, q3, i1, i2, hmax]
          · have hvl := hanc 1 (by decide) (by decide)
            have hw1 : w1 = w2.drew := by
              match vs, hSt, hvl with
              | [], h, _ => exact h
              | [v], h, _ => exact h.2
            subst hw1
            have q1 : w2.drew.cell? ⟨cb, 1, none⟩ = some (.int .i64 c.r) := cR1
            have q0 : w2.drew.cell? ⟨cb, 0, none⟩ = some (.int .i64 c.q) := cR0
            have q2 : w2.drew.cell? ⟨d.P, d.o + 5, none⟩ = some (.slice (some ⟨d.LO, 0, none⟩) (d.n + 1) (d.n + 1)) := cP5
            have q3 : w2.drew.cell? ⟨d.LO, c.q, none⟩ = some (.int .i64 lv) := cC
            have hx0 : U[0]?.getD undef = .pointer (some ⟨d.P, d.o, none⟩) := kept_of hK 0 (by decide) (by assumption)
            refine step_of_run (v := .pointer (some ⟨d.P, d.o, none⟩)) (w' := _) ?_ ⟨rfl, _, rfl, (fun h => by cases h), rfl⟩
            simp [execOp, go_sem, hx0, q0, q1, q2, q3, i1, i2, hmax]
          · have hvl := hanc 1 (by decide) (by decide)
            have hw1 : w1 = w2.drew := by
              match vs, hSt, hvl with
              | [], h, _ => exact h
              | [v], h, _ => exact h.2
            subst hw1
            have q1 : w2.drew.cell? ⟨cb, 1, none⟩ = some (.int .i64 c.r) := cR1
            have q0 : w2.drew.cell? ⟨cb, 0, none⟩ = some (.int .i64 c.q) := cR0
            have q2 : w2.drew.cell? ⟨d.P, d.o + 5, none⟩ = some (.slice (some ⟨d.LO, 0, none⟩) (d.n + 1) (d.n + 1)) := cP5
            have q3 : w2.drew.cell? ⟨d.LO, c.q, none⟩ = some (.int .i64 lv) := cC
            have d6 : U[136]?.getD undef = .pointer (some ⟨d.P, d.o, none⟩) := slot_of (chain_of (hdep ⟨6, .data⟩ (by simp) rfl (by decide)) rfl) rfl
            refine step_of_run (v := .pointer (some ⟨d.P, d.o, none⟩)) (w' := _) ?_ ⟨rfl, _, rfl, (fun h => by cases h), rfl⟩
            simp [execOp, go_sem, d6, q0, q1, q2, q3, i1, i2, hmax]
          · have hvl := hanc 1 (by decide) (by decide)
            have hw1 : w1 = w2.drew := by
              match vs, hSt, hvl with
              | [], h, _ => exact h
              | [v], h, _ => exact h.2
            subst hw1
            have q1 : w2.drew.cell? ⟨cb, 1, none⟩ = some (.int .i64 c.r) := cR1
            have q0 : w2.drew.cell? ⟨cb, 0, none⟩ = some (.int .i64 c.q) := cR0
            have q2 : w2.drew.cell? ⟨d.P, d.o + 5, none⟩ = some (.slice (some ⟨d.LO, 0, none⟩) (d.n + 1) (d.n + 1)) := cP5
            have q3 : w2.drew.cell? ⟨d.LO, c.q, none⟩ = some (.int .i64 lv) := cC
            have d7 : U[137]?.getD undef = .pointer (some ⟨d.P, d.o, none⟩) := slot_of (chain_of (hdep ⟨7, .data⟩ (by simp) rfl (by decide)) rfl) rfl
            refine step_of_run (v := .pointer (some ⟨d.P, d.o + 5, none⟩)) (w' := _) ?_ ⟨rfl, _, rfl, (fun h => by cases h), rfl⟩
            simp [execOp, go_sem, d7, q0, q1, q2, q3, i1, i2, hmax]
          · have hvl := hanc 1 (by decide) (by decide)
            have hw1 : w1 = w2.drew := by
              match vs, hSt, hvl with
              | [], h, _ => exact h
              | [v], h, _ => exact h.2
            subst hw1
            have q1 : w2.drew.cell? ⟨cb, 1, none⟩ = some (.int .i64 c.r) := cR1
            have q0 : w2.drew.cell? ⟨cb, 0, none⟩ = some (.int .i64 c.q) := cR0
            have q2 : w2.drew.cell? ⟨d.P, d.o + 5, none⟩ = some (.slice (some ⟨d.LO, 0, none⟩) (d.n + 1) (d.n + 1)) := cP5
            have q3 : w2.drew.cell? ⟨d.LO, c.q, none⟩ = some (.int .i64 lv) := cC
            have d8 : U[138]?.getD undef = .pointer (some ⟨d.P, d.o + 5, none⟩) := slot_of (chain_of (hdep ⟨8, .data⟩ (by simp) rfl (by decide)) rfl) rfl
            refine step_of_run (v := .slice (some ⟨d.LO, 0, none⟩) (d.n + 1) (d.n + 1)) (w' := _) ?_ ⟨rfl, _, rfl, (fun h => by cases h), rfl⟩
            simp [execOp, go_sem, d8, q0, q1, q2, q3, i1, i2, hmax]
          · have hvl := hanc 1 (by decide) (by decide)
            have hw1 : w1 = w2.drew := by
              match vs, hSt, hvl with
              | [], h, _ => exact h
              | [v], h, _ => exact h.2
            subst hw1
            have q1 : w2.drew.cell? ⟨cb, 1, none⟩ = some (.int .i64 c.r) := cR1
            have q0 : w2.drew.cell? ⟨cb, 0, none⟩ = some (.int .i64 c.q) := cR0
            have q2 : w2.drew.cell? ⟨d.P, d.o + 5, none⟩ = some (.slice (some ⟨d.LO, 0, none⟩) (d.n + 1) (d.n + 1)) := cP5
            have q3 : w2.drew.cell? ⟨d.LO, c.q, none⟩ = some (.int .i64 lv) := cC
            have hx10 : U[10]?.getD undef = .pointer (some ⟨cb, 0, none⟩) := kept_of hK 10 (by decide) (by assumption)
            refine step_of_run (v := .pointer (some ⟨cb, 0, none⟩)) (w' := _) ?_ ⟨rfl, _, rfl, (fun h => by cases h), rfl⟩
            simp [execOp, go_sem, hx10, q0, q1, q2, q3, i1, i2, hmax]
          · have hvl := hanc 1 (by decide) (by decide)
            have hw1 : w1 = w2.drew := by
              match vs, hSt, hvl with
              | [], h, _ => exact h
              | [v], h, _ => exact h.2
            subst hw1
            have q1 : w2.drew.cell? ⟨cb, 1, none⟩ = some (.int .i64 c.r) := cR1
            have q0 : w2.drew.cell? ⟨cb, 0, none⟩ = some (.int .i64 c.q) := cR0
            have q2 : w2.drew.cell? ⟨d.P, d.o + 5, none⟩ = some (.slice (some ⟨d.LO, 0, none⟩) (d.n + 1) (d.n + 1)) := cP5
            have q3 : w2.drew.cell? ⟨d.LO, c.q, none⟩ = some (.int .i64 lv) := cC
            have d10 : U[140]?.getD undef = .pointer (some ⟨cb, 0, none⟩) := slot_of (chain_of (hdep ⟨10, .data⟩ (by simp) rfl (by decide)) rfl) rfl
            refine step_of_run (v := .int .i64 c.q) (w' := _) ?_ ⟨rfl, _, rfl, (fun h => by cases h), rfl⟩
            simp [execOp, go_sem, d10, q0, q1, q2, q3, i1, i2, hmax]
          · have hvl := hanc 1 (by decide) (by decide)
            have hw1 : w1 = w2.drew := by
              match vs, hSt, hvl with
              | [], h, _ => exact h
              | [v], h, _ => exact h.2
            subst hw1
            have q1 : w2.drew.cell? ⟨cb, 1, none⟩ = some (.int .i64 c.r) := cR1
            have q0 : w2.drew.cell? ⟨cb, 0, none⟩ = some (.int .i64 c.q) := cR0
            have q2 : w2.drew.cell? ⟨d.P, d.o + 5, none⟩ = some (.slice (some ⟨d.LO, 0, none⟩) (d.n + 1) (d.n + 1)) := cP5
            have q3 : w2.drew.cell? ⟨d.LO, c.q, none⟩ = some (.int .i64 lv) := cC
            have d9 : U[139]?.getD undef = .slice (some ⟨d.LO, 0, none⟩) (d.n + 1) (d.n + 1) := slot_of (chain_of (hdep ⟨9, .data⟩ (by simp) rfl (by decide)) rfl) rfl
            have d11 : U[141]?.getD undef = .int .i64 c.q := slot_of (chain_of (hdep ⟨11, .data⟩ (by simp) rfl (by decide)) rfl) rfl
            refine step_of_run (v := .pointer (some ⟨d.LO, c.q, none⟩)) (w' := _) ?_ ⟨rfl, _, rfl, (fun h => by cases h), rfl⟩
            simp [execOp, go_sem, d9, d11, q0, q1, q2, q3, i1, i2, hmax]
          · have hvl := hanc 1 (by decide) (by decide)
            have hw1 : w1 = w2.drew := by
              match vs, hSt, hvl with
              | [], h, _ => exact h
              | [v], h, _ => exact h.2
            subst hw1
            have q1 : w2.drew.cell? ⟨cb, 1, none⟩ = some (.int .i64 c.r) := cR1
            have q0 : w2.drew.cell? ⟨cb, 0, none⟩ = some (.int .i64 c.q) := cR0
            have q2 : w2.drew.cell? ⟨d.P, d.o + 5, none⟩ = some (.slice (some ⟨d.LO, 0, none⟩) (d.n + 1) (d.n + 1)) := cP5
            have q3 : w2.drew.cell? ⟨d.LO, c.q, none⟩ = some (.int .i64 lv) := cC
            have d12 : U[142]?.getD undef = .pointer (some ⟨d.LO, c.q, none⟩) := slot_of (chain_of (hdep ⟨12, .data⟩ (by simp) rfl (by decide)) rfl) rfl
            refine step_of_run (v := .int .i64 lv) (w' := _) ?_ ⟨rfl, _, rfl, (fun h => by cases h), rfl⟩
            simp [execOp, go_sem, d12, q0, q1, q2, q3, i1, i2, hmax]
          · have hvl := hanc 1 (by decide) (by decide)
            have hw1 : w1 = w2.drew := by
              match vs, hSt, hvl with
              | [], h, _ => exact h
              | [v], h, _ => exact h.2
            subst hw1
            have q1 : w2.drew.cell? ⟨cb, 1, none⟩ = some (.int .i64 c.r) := cR1
            have q0 : w2.drew.cell? ⟨cb, 0, none⟩ = some (.int .i64 c.q) := cR0
            have q2 : w2.drew.cell? ⟨d.P, d.o + 5, none⟩ = some (.slice (some ⟨d.LO, 0, none⟩) (d.n + 1) (d.n + 1)) := cP5
            have q3 : w2.drew.cell? ⟨d.LO, c.q, none⟩ = some (.int .i64 lv) := cC
            have hx10 : U[10]?.getD undef = .pointer (some ⟨cb, 0, none⟩) := kept_of hK 10 (by decide) (by assumption)
            refine step_of_run (v := .pointer (some ⟨cb, 1, none⟩)) (w' := _) ?_ ⟨rfl, _, rfl, (fun h => by cases h), rfl⟩
            simp [execOp, go_sem, hx10, q0, q1, q2, q3, i1, i2, hmax]
          · have hvl := hanc 1 (by decide) (by decide)
            have hw1 : w1 = w2.drew := by
              match vs, hSt, hvl with
              | [], h, _ => exact h
              | [v], h, _ => exact h.2
            subst hw1
            have q1 : w2.drew.cell? ⟨cb, 1, none⟩ = some (.int .i64 c.r) := cR1
            have q0 : w2.drew.cell? ⟨cb, 0, none⟩ = some (.int .i64 c.q) := cR0
            have q2 : w2.drew.cell? ⟨d.P, d.o + 5, none⟩ = some (.slice (some ⟨d.LO, 0, none⟩) (d.n + 1) (d.n + 1)) := cP5
            have q3 : w2.drew.cell? ⟨d.LO, c.q, none⟩ = some (.int .i64 lv) := cC
            have d14 : U[144]?.getD undef = .pointer (some ⟨cb, 1, none⟩) := slot_of (chain_of (hdep ⟨14, .data⟩ (by simp) rfl (by decide)) rfl) rfl
            refine step_of_run (v := .int .i64 c.r) (w' := _) ?_ ⟨rfl, _, rfl, (fun h => by cases h), rfl⟩
            simp [execOp, go_sem, d14, q0, q1, q2, q3, i1, i2, hmax]
          · have hvl := hanc 1 (by decide) (by decide)
            have hw1 : w1 = w2.drew := by
              match vs, hSt, hvl with
              | [], h, _ => exact h
              | [v], h, _ => exact h.2
            subst hw1
            have q1 : w2.drew.cell? ⟨cb, 1, none⟩ = some (.int .i64 c.r) := cR1
            have q0 : w2.drew.cell? ⟨cb, 0, none⟩ = some (.int .i64 c.q) := cR0
            have q2 : w2.drew.cell? ⟨d.P, d.o + 5, none⟩ = some (.slice (some ⟨d.LO, 0, none⟩) (d.n + 1) (d.n + 1)) := cP5
            have q3 : w2.drew.cell? ⟨d.LO, c.q, none⟩ = some (.int .i64 lv) := cC
            have d13 : U[143]?.getD undef = .int .i64 lv := slot_of (chain_of (hdep ⟨13, .data⟩ (by simp) rfl (by decide)) rfl) rfl
            have d15 : U[145]?.getD undef = .int .i64 c.r := slot_of (chain_of (hdep ⟨15, .data⟩ (by simp) rfl (by decide)) rfl) rfl
            refine step_of_run (v := .int .i64 mx) (w' := _) ?_ ⟨rfl, _, rfl, (fun h => by cases h), rfl⟩
            simp [execOp, go_sem, d13, d15, q0, q1, q2, q3, i1, i2, hmax]
          · exact absurd (by decide) hia
          · exact absurd (by decide) hia
        · intro j hj hi U vs w1 hlen hU hK hSt hdep hprev
          have hj' : j < 2 := hj
          rcases (by omega : j = 0 ∨ j = 1) with rfl | rfl
          · obtain rfl : vs = [] := List.eq_nil_of_length_eq_zero hlen
            have d3 : U[133]?.getD undef = .slice (some ⟨d.LO, 0, none⟩) (d.n + 1) (d.n + 1) := slot_of (chain_of (hdep ⟨3, .data⟩ (by simp) rfl (by decide)) rfl) rfl
            have d5 : U[135]?.getD undef = .int .i64 c.q := slot_of (chain_of (hdep ⟨5, .data⟩ (by simp) rfl (by decide)) rfl) rfl
            have hw1 : w1 = w2.drew := hSt
            subst hw1
            refine step_of_run (v := .pointer (some ⟨d.LO, c.q, none⟩)) (w' := w2.drew) ?_ ⟨_, rfl, (fun h => by cases h), rfl, rfl⟩
            simp [execOp, go_sem, i1, i2, d3, d5]
          · obtain ⟨v0, rfl⟩ : ∃ v0, vs = [v0] := by
              match vs, hlen with | [v0], _ => exact ⟨v0, rfl⟩
            have p0 : U[147]?.getD undef = v0 := slot_of (hprev 0 (by decide)) rfl
            have d16 : U[146]?.getD undef = .int .i64 mx := slot_of (chain_of (hdep ⟨16, .data⟩ (by simp) rfl (by decide)) rfl) rfl
            obtain ⟨rfl, rfl⟩ := hSt
            have q4 : w2.drew.cell? ⟨d.LO, c.q, none⟩ = some _ := cC
            have q5 : w2.drew.frozen? ⟨d.LO, c.q, none⟩ = false := fC
            refine step_of_skip (w' := w2.drew.setCell ⟨d.LO, c.q, none⟩ (.int .i64 mx)) ?_ ⟨undef, rfl, (fun _ => rfl), rfl⟩
            simp [execOp, go_sem, d16, p0] at q4 q5 ⊢
            simp [q4, q5]
        · intro W vs w3 hW hKW hlen3 hSt hval hall
          have hw3 : w3 = w2.drew.setCell ⟨d.LO, c.q, none⟩ (.int .i64 mx) := by
            match vs, hlen3, hSt with
            | [_, _], _, h => exact h
          have ho3 : Only (fun b => b = d.LO) w2 w3 := by rw [hw3]; exact Only.setCell (S := fun b => b = d.LO) Only.refl.drew (p := ⟨d.LO, c.q, none⟩) (fun _ => rfl) _
          have hps3 := HPS2.out.setLO (lov' := lovF (d.ol.take (j + 1))) OK.out ho3 (by
            rw [hw3]
            refine (HPS2.out.LO.drew.set c.q _).ext fun x hx => ?_
            rw [lovF_succ d.ol j hj, ← HCE.out]
            by_cases e : x = c.q
            · rw [if_pos e, if_pos e.symm, HMX.out, HLV.out, e]
            · rw [if_neg e, if_neg (Ne.symm e)])
          have HPS3 := hidP hps3
          have HR3 := hidP (HR2.out.trans' ho3 (fun b _ e => .inr (.inr (.inr (.inr (.inl e))))))
          have hKW2 := Keeps.trans HKV.out (Kept.keeps (lo := 4) (hi := 235) (vs := []) hKW (hW.trans hV.symm) (by decide))
          have HKW := hidP hKW2
          have d34 : W[117]'(by omega) = .slice (some ⟨B, 0, none⟩) d.ol.length cap := at_of _ (kept_of hKW 117 (by decide) v34)
          have d35 : W[118]'(by omega) = .int .i64 d.ol.length := at_of _ (kept_of hKW 118 (by decide) v35)
          have d36 : W[119]'(by omega) = .int .i64 j := at_of _ (kept_of hKW 119 (by decide) v36)
          clear hKW hSt hval hall hps3 hw3 ho3 hKW2 v0 v10 v34 v35 v36 cR0 cR1 cP5 cC fC hmax
          go_wp2_with fail
          first | refine ⟨trivial, k - 1, by omega, ?_⟩ | refine ⟨k - 1, by omega, ?_⟩
          rw [HI.out]
          refine ⟨j + 1, by omega, ?_, by simp [hW, d34, HE1.out], by simp [hW, d35], by simp [hW], HPS3.out, HO.out.trans HR3.out⟩
          repeat (refine Keeps.put ?_ _ _ (by first | exact .inr ⟨by decide, by decide⟩ | exact .inl (by decide)))
          exact HKW.out
    · have hj : j = d.ol.length := by have := of_decide_eq_false h; omega
      clear h
      go_wp2_with fail
      subst hj
      have hps := HPS.out
      rw [List.take_length] at hps
      refine HQ.out _ _ ?_ hps HO.out
      repeat (refine Keeps.put ?_ _ _ (by first | exact .inr ⟨by decide, by decide⟩ | exact .inl (by decide)))
      exact HK.out
  · rw [HI.out]
    exact ⟨0, by omega, Keeps.refl, t117, t118, t119, HPS0.out, Only.refl⟩
end Go.Proofs.Ybulkcawy
