/-
  set's two innermost loops: the marks of a crash's row, and of an omission's.
-/
import Derived.Test.YbulkcawySetBase
namespace Go.Proofs.Ybulkcawy
open Go.RowKit
set_option linter.unusedSimpArgs false
set_option linter.unusedVariables false
set_option maxRecDepth 100000
set_option maxHeartbeats 4000000

theorem IntsS.some {w : World} {EB : Nat} {v : Value} {xs : List Nat} (h : IntsS w EB v xs) {j : Nat} (hj : j < xs.length) : ∃ b cap, v = .slice (some ⟨b, 0, none⟩) xs.length cap ∧ b < EB ∧ b < w.heap.size ∧ w.cell? ⟨b, j, none⟩ = some (.int .i64 xs[j]) := by
  rcases h with ⟨_, rfl⟩ | ⟨b, cap, h1, h2, h3, h4⟩
  · simp at hj
  · exact ⟨b, cap, h1, h2, h3, h4 j hj⟩

theorem contains_take_succ (xs : List Nat) (j : Nat) (hj : j < xs.length) (i : Nat) : (xs.take (j + 1)).contains i = ((xs.take j).contains i || decide (i = xs[j])) := by
  have e : xs.take (j + 1) = xs.take j ++ [xs[j]] := by simp
  rw [e]
  simp only [List.contains_eq_mem, List.mem_append, List.mem_singleton]
  by_cases h1 : i ∈ xs.take j <;> by_cases h2 : i = xs[j] <;> simp [h1, h2]

theorem set2 (P o R n q b EB : Nat) (f : Nat → Bool) (xs : List Nat) (tv : Value) (w : World) (hn : n ≤ 6) (hq : q ≤ n) (hPw : P < w.heap.size) (hRw : R < w.heap.size) (hP : w.cell? ⟨P, o + 2, none⟩ = some (.slice (some ⟨R, 0, none⟩) (n + 1) (n + 1))) (hR : w.cell? ⟨R, q, none⟩ = some (.slice (some ⟨b, 0, none⟩) (n + 1) (n + 1)))
    (hb : Row w b 4 (n + 1) (fun i => .bool (f i))) (hPb : P ≠ b) (hRb : R ≠ b) (hEB : EB ≤ b) (hx : IntsS w EB tv xs) (hxs : ∀ i ∈ xs, i ≤ n) (hxl : xs.length ≤ 1000) (T : Array Value) (Q : Exit → Act → World → Prop) (hT0 : T.size = 236)
    (t0 : T[0]?.getD undef = .pointer (some ⟨P, o, none⟩)) (t6 : T[6]?.getD undef = .int .i64 q) (t95 : T[95]?.getD undef = tv) (t96 : T[96]?.getD undef = .int .i64 xs.length) (t97 : T[97]?.getD undef = .int .i64 0)
    (hQ : ∀ T' w', Keeps 97 110 [8] T T' → Row w' b 4 (n + 1) (fun i => .bool (f i || xs.contains i)) → Only (fun x => x = b) w w' → Q .normal ⟨T', []⟩ w') : (blkOf Yba.f23 2).wp Yba.prog Q ⟨T, []⟩ w := by
  conv in (blkOf Yba.f23 2) => whnf
  refine wp_block ?_
  have HQ := hidP hQ
  have HB := hidP hb
  have HX := hidP hx
  have HXS := hidP hxs
  clear hQ hb hx hxs
  obtain ⟨I, hI⟩ : ∃ I : Nat → Array Value → World → Prop, I = (fun k T2 wr => ∃ j, j + k = xs.length ∧ Keeps 97 110 [8] T T2 ∧ T2[97]?.getD undef = .int .i64 j ∧ Row wr b 4 (n + 1) (fun i => .bool (f i || (xs.take j).contains i)) ∧ Only (fun x => x = b) w wr) := ⟨_, rfl⟩
  have HI := hidP hI
  clear hI
  refine wp_loop_n I ?_ xs.length _ _ ?_
  · intro k T2 wr hIk
    rw [HI.out] at hIk
    obtain ⟨j, hjk, hK, u97, hbr, ho⟩ := hIk
    have hT : T2.size = 236 := hK.1.trans hT0
    have a95 := hK.at' hT 95 (by decide) t95 (by decide) (by decide)
    have a96 := hK.at' hT 96 (by decide) t96 (by decide) (by decide)
    have a97 : T2[97]'(by omega) = _ := at_of _ u97
    have a0 := hK.at' hT 0 (by decide) t0 (by decide) (by decide)
    have a6 := hK.at' hT 6 (by decide) t6 (by decide) (by decide)
    have HK := hidP hK
    have HBR := hidP hbr
    have HO := hidP ho
    have hxr : IntsS wr EB tv xs := HX.out.only ho (fun x _ e => by omega)
    have HXR := hidP hxr
    have cP : wr.cell? ⟨P, o + 2, none⟩ = some (.slice (some ⟨R, 0, none⟩) (n + 1) (n + 1)) := by rw [cell_of_only ho hPw hPb]; exact hP
    have cR : wr.cell? ⟨R, q, none⟩ = some (.slice (some ⟨b, 0, none⟩) (n + 1) (n + 1)) := by rw [cell_of_only ho hRw hRb]; exact hR
    clear hK u97 hbr ho hxr
    go_upto_if 98 with fail
    refine wp_cond_at (decide (j < xs.length)) (by simp [Act.eval, hT]) (fun h => ?_) (fun h => ?_)
    · have hj : j < xs.length := of_decide_eq_true h
      clear h
      obtain ⟨xb, cap, e1, e2, e3, e4⟩ := HXR.out.some hj
      obtain ⟨i, hie⟩ : ∃ i, i = xs[j] := ⟨_, rfl⟩
      have hin : i ≤ n := by rw [hie]; exact HXS.out _ (List.getElem_mem hj)
      rw [← hie] at e4
      rw [e1] at a95
      have i1 : (0 : Int) ≤ (j : Int) := by omega
      have i2 : (j : Int) < (xs.length : Int) := by omega
      have i3 : (0 : Int) ≤ (q : Int) := by omega
      have i4 : (q : Int) < (n : Int) + 1 := by omega
      have i5 : (0 : Int) ≤ (i : Int) := by omega
      have i6 : (i : Int) < (n : Int) + 1 := by omega
      have cb := HBR.out.cell i (by omega)
      have fb := HBR.out.frozen i
      have HIE := hidP hie
      have HE1 := hidP e1
      clear hie e1
      refine gen_frame (fun U => U.size = 236 ∧ Keeps 97 110 [8] T U ∧ U[95]?.getD undef = .slice (some ⟨xb, 0, none⟩) xs.length cap ∧ U[97]?.getD undef = .int .i64 j) ⟨by simp [hT], ?_, by simp [hT, a95], by simp [hT, a97]⟩ ?_
      · repeat (refine Keeps.put ?_ _ _ (by first | exact .inr ⟨by decide, by decide⟩ | exact .inl (by decide)))
        exact HK.out
      rintro U ⟨hU, hKU, u95, u97⟩
      have b0 := hKU.at' hU 0 (by decide) t0 (by decide) (by decide)
      have b6 := hKU.at' hU 6 (by decide) t6 (by decide) (by decide)
      have b95 : U[95]'(by omega) = _ := at_of _ u95
      have b97 : U[97]'(by omega) = _ := at_of _ u97
      have HKU := hidP hKU
      clear hKU u95 u97 a0 a6 a95 a96 a97
      go_wp2_with fail
      first | refine ⟨trivial, k - 1, by omega, ?_⟩ | refine ⟨k - 1, by omega, ?_⟩
      rw [HI.out]
      refine ⟨j + 1, by omega, ?_, by simp [hU], ?_, Only.setCell HO.out (fun _ => rfl) _⟩
      · repeat (refine Keeps.put ?_ _ _ (by first | exact .inr ⟨by decide, by decide⟩ | exact .inl (by decide)))
        exact HKU.out
      · refine (HBR.out.set i _).ext fun x hx => ?_
        rw [contains_take_succ xs j hj, ← HIE.out]
        by_cases e : x = i
        · simp [e]
        · simp [e]
    · have hj : j = xs.length := by have := of_decide_eq_false h; omega
      clear h
      go_wp2_with fail
      subst hj
      refine HQ.out _ _ ?_ ?_ HO.out
      · repeat (refine Keeps.put ?_ _ _ (by first | exact .inr ⟨by decide, by decide⟩ | exact .inl (by decide)))
        exact HK.out
      · have := HBR.out
        rwa [List.take_length] at this
  · rw [HI.out]
    exact ⟨0, by omega, Keeps.refl, t97, HB.out.ext fun x hx => by simp, Only.refl⟩

/-- Where an omission of round r loses the message to i. -/
def lostX (n r i : Nat) : Nat := (r - 1) * (n + 1) + i

theorem set8 (P o Lo n q r b m Ob EB : Nat) (f : Nat → Bool) (xs : List Nat) (tv : Value) (w : World) (hn : n ≤ 6) (hq : q ≤ n) (hr : 1 ≤ r) (hr' : r ≤ 100) (hPw : P < w.heap.size) (hLw : Lo < w.heap.size) (hOw : Ob < w.heap.size) (hP : w.cell? ⟨P, o + 3, none⟩ = some (.slice (some ⟨Lo, 0, none⟩) (n + 1) (n + 1))) (hL : w.cell? ⟨Lo, q, none⟩ = some (.slice (some ⟨b, 0, none⟩) m m)) (hOb : w.cell? ⟨Ob, 1, none⟩ = some (.int .i64 r))
    (hb : Row w b 4 m (fun i => .bool (f i))) (hPb : P ≠ b) (hLb : Lo ≠ b) (hObb : Ob ≠ b) (hEB : EB ≤ b) (hx : IntsS w EB tv xs) (hxs : ∀ i ∈ xs, i ≤ n ∧ lostX n r i < m) (hxl : xs.length ≤ 1000) (T : Array Value) (Q : Exit → Act → World → Prop) (hT0 : T.size = 236)
    (t0 : T[0]?.getD undef = .pointer (some ⟨P, o, none⟩)) (t11 : T[11]?.getD undef = .int .i64 ((n : Int) + 1)) (t13 : T[13]?.getD undef = .pointer (some ⟨Ob, 0, none⟩)) (t14 : T[14]?.getD undef = .int .i64 q) (t213 : T[213]?.getD undef = tv) (t214 : T[214]?.getD undef = .int .i64 xs.length) (t215 : T[215]?.getD undef = .int .i64 0)
    (hQ : ∀ T' w', Keeps 215 234 [16] T T' → Row w' b 4 m (fun x => .bool (f x || (xs.map (lostX n r)).contains x)) → Only (fun x => x = b) w w' → Q .normal ⟨T', []⟩ w') : (blkOf Yba.f23 8).wp Yba.prog Q ⟨T, []⟩ w := by
  conv in (blkOf Yba.f23 8) => whnf
  refine wp_block ?_
  have HQ := hidP hQ
  have HB := hidP hb
  have HX := hidP hx
  have HXS := hidP hxs
  clear hQ hb hx hxs
  obtain ⟨I, hI⟩ : ∃ I : Nat → Array Value → World → Prop, I = (fun k T2 wr => ∃ j, j + k = xs.length ∧ Keeps 215 234 [16] T T2 ∧ T2[215]?.getD undef = .int .i64 j ∧ Row wr b 4 m (fun x => .bool (f x || ((xs.map (lostX n r)).take j).contains x)) ∧ Only (fun x => x = b) w wr) := ⟨_, rfl⟩
  have HI := hidP hI
  clear hI
  refine wp_loop_n I ?_ xs.length _ _ ?_
  · intro k T2 wr hIk
    rw [HI.out] at hIk
    obtain ⟨j, hjk, hK, u215, hbr, ho⟩ := hIk
    have hT : T2.size = 236 := hK.1.trans hT0
    have a213 := hK.at' hT 213 (by decide) t213 (by decide) (by decide)
    have a214 := hK.at' hT 214 (by decide) t214 (by decide) (by decide)
    have a215 : T2[215]'(by omega) = _ := at_of _ u215
    have HK := hidP hK
    have HBR := hidP hbr
    have HO := hidP ho
    have hxr : IntsS wr EB tv xs := HX.out.only ho (fun x _ e => by omega)
    have HXR := hidP hxr
    have cP : wr.cell? ⟨P, o + 3, none⟩ = some (.slice (some ⟨Lo, 0, none⟩) (n + 1) (n + 1)) := by rw [cell_of_only ho hPw hPb]; exact hP
    have cL : wr.cell? ⟨Lo, q, none⟩ = some (.slice (some ⟨b, 0, none⟩) m m) := by rw [cell_of_only ho hLw hLb]; exact hL
    have cO : wr.cell? ⟨Ob, 1, none⟩ = some (.int .i64 r) := by rw [cell_of_only ho hOw hObb]; exact hOb
    clear hK u215 hbr ho hxr
    go_upto_if 216 with fail
    refine wp_cond_at (decide (j < xs.length)) (by simp [Act.eval, hT]) (fun h => ?_) (fun h => ?_)
    · have hj : j < xs.length := of_decide_eq_true h
      clear h
      obtain ⟨xb, cap, e1, e2, e3, e4⟩ := HXR.out.some hj
      obtain ⟨i, hie⟩ : ∃ i, i = xs[j] := ⟨_, rfl⟩
      obtain ⟨hin, hlm⟩ := HXS.out _ (List.getElem_mem hj)
      rw [← hie] at e4 hin hlm
      rw [e1] at a213
      have i0a : (0 : Int) ≤ (j : Int) := by omega
      have i0b : (j : Int) < (xs.length : Int) := by omega
      have HIE := hidP hie
      clear hie e1
      refine gen_frame (fun U => U.size = 236 ∧ Keeps 215 234 [16] T U ∧ U[213]?.getD undef = .slice (some ⟨xb, 0, none⟩) xs.length cap ∧ U[215]?.getD undef = .int .i64 j) ⟨by simp [hT], ?_, by simp [hT, a213], by simp [hT, a215]⟩ ?_
      · repeat (refine Keeps.put ?_ _ _ (by first | exact .inr ⟨by decide, by decide⟩ | exact .inl (by decide)))
        exact HK.out
      rintro U ⟨hU, hKU, u213, u215⟩
      have b213 : U[213]'(by omega) = _ := at_of _ u213
      have b215 : U[215]'(by omega) = _ := at_of _ u215
      have HKU := hidP hKU
      clear hKU u213 u215 a213 a214 a215
      go_upto_region 40 with fail
      refine gen_frame (fun V => V.size = 236 ∧ Keeps 215 234 [16] T V ∧ V[16]?.getD undef = .int .i64 i ∧ V[215]?.getD undef = .int .i64 j) ⟨by simp [hU], ?_, by simp [hU], by simp [hU, b215]⟩ ?_
      · repeat (refine Keeps.put ?_ _ _ (by first | exact .inr ⟨by decide, by decide⟩ | exact .inl (by decide)))
        exact HKU.out
      rintro V ⟨hV, hKV, v16, v215⟩
      have v0 := hKV.get t0 (by decide) (by decide)
      have v11 := hKV.get t11 (by decide) (by decide)
      have v13 := hKV.get t13 (by decide) (by decide)
      have v14 := hKV.get t14 (by decide) (by decide)
      have HKV := hidP hKV
      obtain ⟨y, hye⟩ : ∃ y, y = (r - 1) * (n + 1) := ⟨_, rfl⟩
      obtain ⟨z, hze⟩ : ∃ z, z = lostX n r i := ⟨_, rfl⟩
      rw [← hze] at hlm
      have hb1 : y ≤ 100 * 7 := by rw [hye]; exact Nat.mul_le_mul (by omega) (by omega)
      have hy : ((r : Int) - 1) * ((n : Int) + 1) = (y : Int) := by
        rw [hye]
        push_cast [hr]
        rfl
      have hz : (y : Int) + (i : Int) = (z : Int) := by rw [hze, lostX, ← hye]; push_cast; rfl
      have y1 : (0 : Int) ≤ (y : Int) := by omega
      have y2 : (y : Int) ≤ 700 := by omega
      have z1 : (0 : Int) ≤ (z : Int) := by omega
      have z2 : (z : Int) < (m : Int) := by omega
      have wr1 : IntKind.i64.wrap ((r : Int) - 1) = (r : Int) - 1 := by rw [IntKind.wrap_i64]; omega
      have wr2 : IntKind.i64.wrap (y : Int) = (y : Int) := by rw [IntKind.wrap_i64]; omega
      have wr3 : IntKind.i64.wrap (z : Int) = (z : Int) := by rw [IntKind.wrap_i64]; omega
      have i1 : (0 : Int) ≤ (q : Int) := by omega
      have i2 : (q : Int) < (n : Int) + 1 := by omega
      have cb := HBR.out.cell z hlm
      have fb := HBR.out.frozen z
      have HZE := hidP hze
      clear hKV b213 b215 hye hze
      refine region_chain (by kernel_rfl) _ 236 hV [some (.pointer (some ⟨P, o, none⟩)), some (.pointer (some ⟨P, o, none⟩)), some (.pointer (some ⟨P, o + 3, none⟩)), some (.slice (some ⟨Lo, 0, none⟩) (n + 1) (n + 1)), some (.int .i64 q), some (.pointer (some ⟨Lo, q, none⟩)), some (.slice (some ⟨b, 0, none⟩) m m), some (.pointer (some ⟨Ob, 1, none⟩)), some (.int .i64 r), some (.int .i64 ((r : Int) - 1)), some (.int .i64 ((n : Int) + 1)), some (.int .i64 y), some (.int .i64 i), some (.int .i64 z), none, none] [14, 15] (fun vs w1 => match vs with | [] => w1 = wr.drew | [v] => v = .pointer (some ⟨b, z, none⟩) ∧ w1 = wr.drew | _ => w1 = wr.drew.setCell ⟨b, z, none⟩ (.bool true)) (by decide) (by decide) (by decide) (by decide) (by decide) (by decide) ?_ ?_ ?_ rfl
      · intro i hi U vs w1 hia hU hK hSt hanc hdep
        have hi' : i < 16 := hi
        rcases (by omega : i = 0 ∨ i = 1 ∨ i = 2 ∨ i = 3 ∨ i = 4 ∨ i = 5 ∨ i = 6 ∨ i = 7 ∨ i = 8 ∨ i = 9 ∨ i = 10 ∨ i = 11 ∨ i = 12 ∨ i = 13 ∨ i = 14 ∨ i = 15) with rfl | rfl | rfl | rfl | rfl | rfl | rfl | rfl | rfl | rfl | rfl | rfl | rfl | rfl | rfl | rfl
        · have hvl := hanc 1 (by decide) (by decide)
          have hw1 : w1 = wr.drew := by
            match vs, hSt, hvl with
            | [], h, _ => exact h
            | [v], h, _ => exact h.2
          subst hw1
          have q1 : wr.drew.cell? ⟨P, o + 3, none⟩ = some (.slice (some ⟨Lo, 0, none⟩) (n + 1) (n + 1)) := cP
          have q2 : wr.drew.cell? ⟨Lo, q, none⟩ = some (.slice (some ⟨b, 0, none⟩) m m) := cL
          have q3 : wr.drew.cell? ⟨Ob, 1, none⟩ = some (.int .i64 r) := cO
          have hx0 : U[0]?.getD undef = .pointer (some ⟨P, o, none⟩) := kept_of hK 0 (by decide) (by assumption)
          refine step_of_run (v := .pointer (some ⟨P, o, none⟩)) (w' := _) ?_ ⟨rfl, _, rfl, (fun h => by cases h), rfl⟩
          simp [execOp, go_sem, hx0, q1, q2, q3, i1, i2, hy, hz, wr1, wr2, wr3]
        · have hvl := hanc 1 (by decide) (by decide)
          have hw1 : w1 = wr.drew := by
            match vs, hSt, hvl with
            | [], h, _ => exact h
            | [v], h, _ => exact h.2
          subst hw1
          have q1 : wr.drew.cell? ⟨P, o + 3, none⟩ = some (.slice (some ⟨Lo, 0, none⟩) (n + 1) (n + 1)) := cP
          have q2 : wr.drew.cell? ⟨Lo, q, none⟩ = some (.slice (some ⟨b, 0, none⟩) m m) := cL
          have q3 : wr.drew.cell? ⟨Ob, 1, none⟩ = some (.int .i64 r) := cO
          have d0 : U[219]?.getD undef = .pointer (some ⟨P, o, none⟩) := slot_of (chain_of (hdep ⟨0, .data⟩ (by simp) rfl (by decide)) rfl) rfl
          refine step_of_run (v := .pointer (some ⟨P, o, none⟩)) (w' := _) ?_ ⟨rfl, _, rfl, (fun h => by cases h), rfl⟩
          simp [execOp, go_sem, d0, q1, q2, q3, i1, i2, hy, hz, wr1, wr2, wr3]
        · have hvl := hanc 1 (by decide) (by decide)
          have hw1 : w1 = wr.drew := by
            match vs, hSt, hvl with
            | [], h, _ => exact h
            | [v], h, _ => exact h.2
          subst hw1
          have q1 : wr.drew.cell? ⟨P, o + 3, none⟩ = some (.slice (some ⟨Lo, 0, none⟩) (n + 1) (n + 1)) := cP
          have q2 : wr.drew.cell? ⟨Lo, q, none⟩ = some (.slice (some ⟨b, 0, none⟩) m m) := cL
          have q3 : wr.drew.cell? ⟨Ob, 1, none⟩ = some (.int .i64 r) := cO
          have d1 : U[220]?.getD undef = .pointer (some ⟨P, o, none⟩) := slot_of (chain_of (hdep ⟨1, .data⟩ (by simp) rfl (by decide)) rfl) rfl
          refine step_of_run (v := .pointer (some ⟨P, o + 3, none⟩)) (w' := _) ?_ ⟨rfl, _, rfl, (fun h => by cases h), rfl⟩
          simp [execOp, go_sem, d1, q1, q2, q3, i1, i2, hy, hz, wr1, wr2, wr3]
        · have hvl := hanc 1 (by decide) (by decide)
          have hw1 : w1 = wr.drew := by
            match vs, hSt, hvl with
            | [], h, _ => exact h
            | [v], h, _ => exact h.2
          subst hw1
          have q1 : wr.drew.cell? ⟨P, o + 3, none⟩ = some (.slice (some ⟨Lo, 0, none⟩) (n + 1) (n + 1)) := cP
          have q2 : wr.drew.cell? ⟨Lo, q, none⟩ = some (.slice (some ⟨b, 0, none⟩) m m) := cL
          have q3 : wr.drew.cell? ⟨Ob, 1, none⟩ = some (.int .i64 r) := cO
          have d2 : U[221]?.getD undef = .pointer (some ⟨P, o + 3, none⟩) := slot_of (chain_of (hdep ⟨2, .data⟩ (by simp) rfl (by decide)) rfl) rfl
          refine step_of_run (v := .slice (some ⟨Lo, 0, none⟩) (n + 1) (n + 1)) (w' := _) ?_ ⟨rfl, _, rfl, (fun h => by cases h), rfl⟩
          simp [execOp, go_sem, d2, q1, q2, q3, i1, i2, hy, hz, wr1, wr2, wr3]
        · have hvl := hanc 1 (by decide) (by decide)
          have hw1 : w1 = wr.drew := by
            match vs, hSt, hvl with
            | [], h, _ => exact h
            | [v], h, _ => exact h.2
          subst hw1
          have q1 : wr.drew.cell? ⟨P, o + 3, none⟩ = some (.slice (some ⟨Lo, 0, none⟩) (n + 1) (n + 1)) := cP
          have q2 : wr.drew.cell? ⟨Lo, q, none⟩ = some (.slice (some ⟨b, 0, none⟩) m m) := cL
          have q3 : wr.drew.cell? ⟨Ob, 1, none⟩ = some (.int .i64 r) := cO
          have hx14 : U[14]?.getD undef = .int .i64 q := kept_of hK 14 (by decide) (by assumption)
          refine step_of_run (v := .int .i64 q) (w' := _) ?_ ⟨rfl, _, rfl, (fun h => by cases h), rfl⟩
          simp [execOp, go_sem, hx14, q1, q2, q3, i1, i2, hy, hz, wr1, wr2, wr3]
        · have hvl := hanc 1 (by decide) (by decide)
          have hw1 : w1 = wr.drew := by
            match vs, hSt, hvl with
            | [], h, _ => exact h
            | [v], h, _ => exact h.2
          subst hw1
          have q1 : wr.drew.cell? ⟨P, o + 3, none⟩ = some (.slice (some ⟨Lo, 0, none⟩) (n + 1) (n + 1)) := cP
          have q2 : wr.drew.cell? ⟨Lo, q, none⟩ = some (.slice (some ⟨b, 0, none⟩) m m) := cL
          have q3 : wr.drew.cell? ⟨Ob, 1, none⟩ = some (.int .i64 r) := cO
          have d3 : U[222]?.getD undef = .slice (some ⟨Lo, 0, none⟩) (n + 1) (n + 1) := slot_of (chain_of (hdep ⟨3, .data⟩ (by simp) rfl (by decide)) rfl) rfl
          have d4 : U[223]?.getD undef = .int .i64 q := slot_of (chain_of (hdep ⟨4, .data⟩ (by simp) rfl (by decide)) rfl) rfl
          refine step_of_run (v := .pointer (some ⟨Lo, q, none⟩)) (w' := _) ?_ ⟨rfl, _, rfl, (fun h => by cases h), rfl⟩
          simp [execOp, go_sem, d3, d4, q1, q2, q3, i1, i2, hy, hz, wr1, wr2, wr3]
        · have hvl := hanc 1 (by decide) (by decide)
          have hw1 : w1 = wr.drew := by
            match vs, hSt, hvl with
            | [], h, _ => exact h
            | [v], h, _ => exact h.2
          subst hw1
          have q1 : wr.drew.cell? ⟨P, o + 3, none⟩ = some (.slice (some ⟨Lo, 0, none⟩) (n + 1) (n + 1)) := cP
          have q2 : wr.drew.cell? ⟨Lo, q, none⟩ = some (.slice (some ⟨b, 0, none⟩) m m) := cL
          have q3 : wr.drew.cell? ⟨Ob, 1, none⟩ = some (.int .i64 r) := cO
          have d5 : U[224]?.getD undef = .pointer (some ⟨Lo, q, none⟩) := slot_of (chain_of (hdep ⟨5, .data⟩ (by simp) rfl (by decide)) rfl) rfl
          refine step_of_run (v := .slice (some ⟨b, 0, none⟩) m m) (w' := _) ?_ ⟨rfl, _, rfl, (fun h => by cases h), rfl⟩
          simp [execOp, go_sem, d5, q1, q2, q3, i1, i2, hy, hz, wr1, wr2, wr3]
        · have hvl := hanc 1 (by decide) (by decide)
          have hw1 : w1 = wr.drew := by
            match vs, hSt, hvl with
            | [], h, _ => exact h
            | [v], h, _ => exact h.2
          subst hw1
          have q1 : wr.drew.cell? ⟨P, o + 3, none⟩ = some (.slice (some ⟨Lo, 0, none⟩) (n + 1) (n + 1)) := cP
          have q2 : wr.drew.cell? ⟨Lo, q, none⟩ = some (.slice (some ⟨b, 0, none⟩) m m) := cL
          have q3 : wr.drew.cell? ⟨Ob, 1, none⟩ = some (.int .i64 r) := cO
          have hx13 : U[13]?.getD undef = .pointer (some ⟨Ob, 0, none⟩) := kept_of hK 13 (by decide) (by assumption)
          refine step_of_run (v := .pointer (some ⟨Ob, 1, none⟩)) (w' := _) ?_ ⟨rfl, _, rfl, (fun h => by cases h), rfl⟩
          simp [execOp, go_sem, hx13, q1, q2, q3, i1, i2, hy, hz, wr1, wr2, wr3]
        · have hvl := hanc 1 (by decide) (by decide)
          have hw1 : w1 = wr.drew := by
            match vs, hSt, hvl with
            | [], h, _ => exact h
            | [v], h, _ => exact h.2
          subst hw1
          have q1 : wr.drew.cell? ⟨P, o + 3, none⟩ = some (.slice (some ⟨Lo, 0, none⟩) (n + 1) (n + 1)) := cP
          have q2 : wr.drew.cell? ⟨Lo, q, none⟩ = some (.slice (some ⟨b, 0, none⟩) m m) := cL
          have q3 : wr.drew.cell? ⟨Ob, 1, none⟩ = some (.int .i64 r) := cO
          have d7 : U[226]?.getD undef = .pointer (some ⟨Ob, 1, none⟩) := slot_of (chain_of (hdep ⟨7, .data⟩ (by simp) rfl (by decide)) rfl) rfl
          refine step_of_run (v := .int .i64 r) (w' := _) ?_ ⟨rfl, _, rfl, (fun h => by cases h), rfl⟩
          simp [execOp, go_sem, d7, q1, q2, q3, i1, i2, hy, hz, wr1, wr2, wr3]
        · have hvl := hanc 1 (by decide) (by decide)
          have hw1 : w1 = wr.drew := by
            match vs, hSt, hvl with
            | [], h, _ => exact h
            | [v], h, _ => exact h.2
          subst hw1
          have q1 : wr.drew.cell? ⟨P, o + 3, none⟩ = some (.slice (some ⟨Lo, 0, none⟩) (n + 1) (n + 1)) := cP
          have q2 : wr.drew.cell? ⟨Lo, q, none⟩ = some (.slice (some ⟨b, 0, none⟩) m m) := cL
          have q3 : wr.drew.cell? ⟨Ob, 1, none⟩ = some (.int .i64 r) := cO
          have d8 : U[227]?.getD undef = .int .i64 r := slot_of (chain_of (hdep ⟨8, .data⟩ (by simp) rfl (by decide)) rfl) rfl
          refine step_of_run (v := .int .i64 ((r : Int) - 1)) (w' := _) ?_ ⟨rfl, _, rfl, (fun h => by cases h), rfl⟩
          simp [execOp, go_sem, d8, q1, q2, q3, i1, i2, hy, hz, wr1, wr2, wr3]
        · have hvl := hanc 1 (by decide) (by decide)
          have hw1 : w1 = wr.drew := by
            match vs, hSt, hvl with
            | [], h, _ => exact h
            | [v], h, _ => exact h.2
          subst hw1
          have q1 : wr.drew.cell? ⟨P, o + 3, none⟩ = some (.slice (some ⟨Lo, 0, none⟩) (n + 1) (n + 1)) := cP
          have q2 : wr.drew.cell? ⟨Lo, q, none⟩ = some (.slice (some ⟨b, 0, none⟩) m m) := cL
          have q3 : wr.drew.cell? ⟨Ob, 1, none⟩ = some (.int .i64 r) := cO
          have hx11 : U[11]?.getD undef = .int .i64 ((n : Int) + 1) := kept_of hK 11 (by decide) (by assumption)
          refine step_of_run (v := .int .i64 ((n : Int) + 1)) (w' := _) ?_ ⟨rfl, _, rfl, (fun h => by cases h), rfl⟩
          simp [execOp, go_sem, hx11, q1, q2, q3, i1, i2, hy, hz, wr1, wr2, wr3]
        · have hvl := hanc 1 (by decide) (by decide)
          have hw1 : w1 = wr.drew := by
            match vs, hSt, hvl with
            | [], h, _ => exact h
            | [v], h, _ => exact h.2
          subst hw1
          have q1 : wr.drew.cell? ⟨P, o + 3, none⟩ = some (.slice (some ⟨Lo, 0, none⟩) (n + 1) (n + 1)) := cP
          have q2 : wr.drew.cell? ⟨Lo, q, none⟩ = some (.slice (some ⟨b, 0, none⟩) m m) := cL
          have q3 : wr.drew.cell? ⟨Ob, 1, none⟩ = some (.int .i64 r) := cO
          have d9 : U[228]?.getD undef = .int .i64 ((r : Int) - 1) := slot_of (chain_of (hdep ⟨9, .data⟩ (by simp) rfl (by decide)) rfl) rfl
          have d10 : U[229]?.getD undef = .int .i64 ((n : Int) + 1) := slot_of (chain_of (hdep ⟨10, .data⟩ (by simp) rfl (by decide)) rfl) rfl
          refine step_of_run (v := .int .i64 y) (w' := _) ?_ ⟨rfl, _, rfl, (fun h => by cases h), rfl⟩
          simp [execOp, go_sem, d9, d10, q1, q2, q3, i1, i2, hy, hz, wr1, wr2, wr3]
        · have hvl := hanc 1 (by decide) (by decide)
          have hw1 : w1 = wr.drew := by
            match vs, hSt, hvl with
            | [], h, _ => exact h
            | [v], h, _ => exact h.2
          subst hw1
          have q1 : wr.drew.cell? ⟨P, o + 3, none⟩ = some (.slice (some ⟨Lo, 0, none⟩) (n + 1) (n + 1)) := cP
          have q2 : wr.drew.cell? ⟨Lo, q, none⟩ = some (.slice (some ⟨b, 0, none⟩) m m) := cL
          have q3 : wr.drew.cell? ⟨Ob, 1, none⟩ = some (.int .i64 r) := cO
          have hx16 : U[16]?.getD undef = .int .i64 i := kept_of hK 16 (by decide) (by assumption)
          refine step_of_run (v := .int .i64 i) (w' := _) ?_ ⟨rfl, _, rfl, (fun h => by cases h), rfl⟩
          simp [execOp, go_sem, hx16, q1, q2, q3, i1, i2, hy, hz, wr1, wr2, wr3]
        · have hvl := hanc 1 (by decide) (by decide)
          have hw1 : w1 = wr.drew := by
            match vs, hSt, hvl with
            | [], h, _ => exact h
            | [v], h, _ => exact h.2
          subst hw1
          have q1 : wr.drew.cell? ⟨P, o + 3, none⟩ = some (.slice (some ⟨Lo, 0, none⟩) (n + 1) (n + 1)) := cP
          have q2 : wr.drew.cell? ⟨Lo, q, none⟩ = some (.slice (some ⟨b, 0, none⟩) m m) := cL
          have q3 : wr.drew.cell? ⟨Ob, 1, none⟩ = some (.int .i64 r) := cO
          have d11 : U[230]?.getD undef = .int .i64 y := slot_of (chain_of (hdep ⟨11, .data⟩ (by simp) rfl (by decide)) rfl) rfl
          have d12 : U[231]?.getD undef = .int .i64 i := slot_of (chain_of (hdep ⟨12, .data⟩ (by simp) rfl (by decide)) rfl) rfl
          refine step_of_run (v := .int .i64 z) (w' := _) ?_ ⟨rfl, _, rfl, (fun h => by cases h), rfl⟩
          simp [execOp, go_sem, d11, d12, q1, q2, q3, i1, i2, hy, hz, wr1, wr2, wr3]
        · exact absurd (by decide) hia
        · exact absurd (by decide) hia
      · intro j hj hi U vs w1 hlen hU hK hSt hdep hprev
        have hj' : j < 2 := hj
        rcases (by omega : j = 0 ∨ j = 1) with rfl | rfl
        · obtain rfl : vs = [] := List.eq_nil_of_length_eq_zero hlen
          have d6 : U[225]?.getD undef = .slice (some ⟨b, 0, none⟩) m m := slot_of (chain_of (hdep ⟨6, .data⟩ (by simp) rfl (by decide)) rfl) rfl
          have d13 : U[232]?.getD undef = .int .i64 z := slot_of (chain_of (hdep ⟨13, .data⟩ (by simp) rfl (by decide)) rfl) rfl
          have hw1 : w1 = wr.drew := hSt
          subst hw1
          refine step_of_run (v := .pointer (some ⟨b, z, none⟩)) (w' := wr.drew) ?_ ⟨_, rfl, (fun h => by cases h), rfl, rfl⟩
          simp [execOp, go_sem, z1, z2, d6, d13]
        · obtain ⟨v0, rfl⟩ : ∃ v0, vs = [v0] := by
            match vs, hlen with | [v0], _ => exact ⟨v0, rfl⟩
          have p0 : U[233]?.getD undef = v0 := slot_of (hprev 0 (by decide)) rfl
          obtain ⟨rfl, rfl⟩ := hSt
          have q4 : wr.drew.cell? ⟨b, z, none⟩ = some _ := cb
          have q5 : wr.drew.frozen? ⟨b, z, none⟩ = false := fb
          refine step_of_skip (w' := wr.drew.setCell ⟨b, z, none⟩ (.bool true)) ?_ ⟨undef, rfl, (fun _ => rfl), rfl⟩
          simp [execOp, go_sem, p0] at q4 q5 ⊢
          simp [q4, q5]
      · intro V2 vs w3 hV2 hKV2 hlen3 hSt hval hall
        have hw3 : w3 = wr.drew.setCell ⟨b, z, none⟩ (.bool true) := by
          match vs, hlen3, hSt with
          | [_, _], _, h => exact h
        have d215 : V2[215]'(by omega) = .int .i64 j := at_of _ (kept_of hKV2 215 (by decide) v215)
        have hK2 := Keeps.trans HKV.out (Kept.keeps (lo := 215) (hi := 234) (vs := [16]) hKV2 (hV2.trans hV.symm) (by decide))
        have HK2 := hidP hK2
        have HW3 := hidP hw3
        clear hKV2 hSt hval hall hK2 hw3
        go_wp2_with fail
        first | refine ⟨trivial, k - 1, by omega, ?_⟩ | refine ⟨k - 1, by omega, ?_⟩
        rw [HI.out]
        refine ⟨j + 1, by omega, ?_, by simp [hV2], ?_, ?_⟩
        · repeat (refine Keeps.put ?_ _ _ (by first | exact .inr ⟨by decide, by decide⟩ | exact .inl (by decide)))
          exact HK2.out
        · rw [HW3.out]
          refine (HBR.out.drew.set z _).ext fun x hx => ?_
          have hjm : j < (xs.map (lostX n r)).length := by simpa using hj
          rw [contains_take_succ _ j hjm]
          simp only [List.getElem_map]
          rw [← HIE.out, ← HZE.out]
          by_cases e : x = z
          · simp [e]
          · simp [e]
        · rw [HW3.out]
          exact Only.setCell HO.out.drew (fun _ => rfl) _
    · have hj : j = xs.length := by have := of_decide_eq_false h; omega
      clear h
      go_wp2_with fail
      subst hj
      refine HQ.out _ _ ?_ ?_ HO.out
      · repeat (refine Keeps.put ?_ _ _ (by first | exact .inr ⟨by decide, by decide⟩ | exact .inl (by decide)))
        exact HK.out
      · have := HBR.out
        rwa [show xs.length = (xs.map (lostX n r)).length by simp, List.take_length] at this
  · rw [HI.out]
    exact ⟨0, by omega, Keeps.refl, t215, HB.out.ext fun x hx => by simp, Only.refl⟩
end Go.Proofs.Ybulkcawy
