/-
  LawS3859APlay: the log is the wanted one.
-/
import Derived.Test.YbulkcawyF3I
namespace Go.Proofs.Ybulkcawy
open Go.RowKit
set_option linter.unusedSimpArgs false
set_option linter.unusedVariables false
set_option maxRecDepth 100000
set_option maxHeartbeats 1000000

theorem own_ints_cell {w : World} {B g n cap : Nat} {xs : List Int} (h : w.ownsRow B 3 1 (.slice (some ⟨g, 0, none⟩) n cap) n (intsV xs)) (k : Nat) (hk : k < n) (hkx : k < xs.length) : w.cell? ⟨g, k, none⟩ = some (.int .i64 xs[k]) := by
  rw [own_cell h k hk]
  simp [intsV, hkx]

theorem f3_34 (B B2 L : Nat) (xs : List Int) (hxs : xs.length ≤ 900000) (lv : Value) (a2 : Option Addr) (c2 : Nat) (w : World) (hL : Row w L 29 1 (fun _ => lv)) (hlv : w.ownsRow B 3 1 lv xs.length (intsV xs)) (hwv : w.ownsRow B2 3 1 (.slice a2 xs.length c2) xs.length (intsV xs)) (T : Array Value) (Q : Exit → Act → World → Prop) (hT0 : T.size = 735) (t52 : T[52]?.getD undef = .pointer (some ⟨L, 0, none⟩)) (t58 : T[58]?.getD undef = .slice a2 xs.length c2) (t75 : T[75]?.getD undef = .int .i64 0)
    (hQ : ∀ T' w', Keeps 81 734 [75] T T' → Only (fun _ => False) w w' → Q .normal ⟨T', []⟩ w') : (blkOf Yba.f3 34).wp Yba.prog Q ⟨T, []⟩ w := by
  conv in (blkOf Yba.f3 34) => whnf
  refine wp_block ?_
  have HQ := hidP hQ
  have H0 := hidP (And.intro hL (And.intro hlv hwv))
  clear hQ hL hlv hwv
  obtain ⟨I, hI⟩ : ∃ I : Nat → Array Value → World → Prop, I = (fun k T2 wr => ∃ k0, k0 + k = xs.length ∧ Keeps 81 734 [75] T T2 ∧ T2[75]?.getD undef = .int .i64 k0 ∧ Only (fun _ => False) w wr) := ⟨_, rfl⟩
  have HI := hidP hI
  clear hI
  refine wp_loop_n I ?_ xs.length _ _ ?_
  · intro k T2 wr hIk
    rw [HI.out] at hIk
    obtain ⟨k0, hkk, hK, u75, ho⟩ := hIk
    have hT : T2.size = 735 := hK.1.trans hT0
    have a52 := hK.at' hT 52 (by decide) t52 (by decide) (by decide)
    have a58 := hK.at' hT 58 (by decide) t58 (by decide) (by decide)
    have a75 : T2[75]'(by omega) = _ := at_of _ u75
    have HK := hidP hK
    clear hK u75
    have HO := hidP ho
    clear ho
    go_upto_if 637 with fail
    refine wp_cond_at (decide (k0 < xs.length)) (by simp [Act.eval, hT]) (fun h => ?_) (fun h => ?_)
    · have hk : k0 < xs.length := of_decide_eq_true h
      clear h
      obtain ⟨hL, hlv, hwv⟩ := H0.out
      have hpos : 0 < xs.length := by omega
      obtain ⟨g, cp, hge⟩ : ∃ g cp, lv = .slice (some ⟨g, 0, none⟩) xs.length cp := by
        rcases own_shape hlv with ⟨_, h⟩ | ⟨g, cp, h, _⟩
        · omega
        · exact ⟨g, cp, h⟩
      obtain ⟨gw, cw, hge2⟩ : ∃ g cp, Value.slice a2 xs.length c2 = .slice (some ⟨g, 0, none⟩) xs.length cp := by
        rcases own_shape hwv with ⟨_, h⟩ | ⟨g, cp, h, _⟩
        · omega
        · exact ⟨g, cp, h⟩
      rw [hge] at hlv hL
      rw [hge2] at hwv
      obtain ⟨x, hx⟩ : ∃ x, x = xs[k0] := ⟨_, rfl⟩
      have cL : wr.cell? ⟨L, 0, none⟩ = some (.slice (some ⟨g, 0, none⟩) xs.length cp) := (hL.only HO.out (fun h => h)).cell 0 (by omega)
      have cg : wr.cell? ⟨g, k0, none⟩ = some (.int .i64 x) := by
        rw [hx, cell_of_only HO.out (own_block_lt hlv rfl).2 (fun h => h)]
        exact own_ints_cell hlv k0 hk hk
      have cgw : wr.cell? ⟨gw, k0, none⟩ = some (.int .i64 x) := by
        rw [hx, cell_of_only HO.out (own_block_lt hwv rfl).2 (fun h => h)]
        exact own_ints_cell hwv k0 hk hk
      have i1 : (0 : Int) ≤ (k0 : Int) := by omega
      have i2 : (k0 : Int) < (xs.length : Int) := by omega
      clear hL hlv hwv hx
      refine gen_frame (fun T2 => T2.size = 735 ∧ Keeps 81 734 [75] T T2 ∧ T2[75]?.getD undef = .int .i64 k0) ⟨by simp [hT], ?_, by simp [hT, a52, a58, a75]⟩ ?_
      · repeat (refine Keeps.put ?_ _ _ (by first | exact .inr ⟨by decide, by decide⟩ | exact .inl (by decide)))
        exact HK.out
      clear a52 a58 a75 HK hT
      clear T2
      rintro T2 ⟨hT, hK, u75⟩
      have a52 := hK.at' hT 52 (by decide) t52 (by decide) (by decide)
      have a58 := hK.at' hT 58 (by decide) t58 (by decide) (by decide)
      have a75 : T2[75]'(by omega) = _ := at_of _ u75
      have HK := hidP hK
      clear hK u75
      have s52 : T2[52]?.getD undef = .pointer (some ⟨L, 0, none⟩) := by simp [hT, a52]
      have s58 : T2[58]?.getD undef = .slice (some ⟨gw, 0, none⟩) xs.length cw := by rw [← hge2]; simp [hT, a58]
      have s75 : T2[75]?.getD undef = .int .i64 k0 := by simp [hT, a75]
      clear hge2 hge
      go_upto_region 160 with fail
      refine region_chain (by kernel_rfl) _ 735 hT [some (.slice (some ⟨g, 0, none⟩) xs.length cp), some (.int .i64 k0), some (.pointer (some ⟨g, k0, none⟩)), some (.int .i64 x), some (.slice (some ⟨gw, 0, none⟩) xs.length cw), some (.int .i64 k0), some (.pointer (some ⟨gw, k0, none⟩)), some (.int .i64 x), some (.bool false)] [] (fun _ w1 => w1 = wr.drew) (by decide) (by decide) (by decide) (by decide) (by decide) (by decide) ?_ ?_ ?_ rfl
      · intro i hi U vs w1 hia hU hK hSt hanc hdep
        have hw1 : w1 = wr.drew := hSt
        subst hw1
        have q1 : wr.drew.cell? ⟨L, 0, none⟩ = some (.slice (some ⟨g, 0, none⟩) xs.length cp) := cL
        have q2 : wr.drew.cell? ⟨g, k0, none⟩ = some (.int .i64 x) := cg
        have q3 : wr.drew.cell? ⟨gw, k0, none⟩ = some (.int .i64 x) := cgw
        have hi' : i < 9 := hi
        rcases (by omega : i = 0 ∨ i = 1 ∨ i = 2 ∨ i = 3 ∨ i = 4 ∨ i = 5 ∨ i = 6 ∨ i = 7 ∨ i = 8) with rfl | rfl | rfl | rfl | rfl | rfl | rfl | rfl | rfl
        · have hx52 : U[52]?.getD undef = .pointer (some ⟨L, 0, none⟩) := kept_of hK 52 (by decide) (by assumption)
          refine step_of_run (v := .slice (some ⟨g, 0, none⟩) xs.length cp) (w' := _) ?_ ⟨rfl, _, rfl, (fun h => by cases h), rfl⟩
          simp [execOp, go_sem, hx52, q1, q2, q3, i1, i2]
        · have hx75 : U[75]?.getD undef = .int .i64 k0 := kept_of hK 75 (by decide) (by assumption)
          refine step_of_run (v := .int .i64 k0) (w' := _) ?_ ⟨rfl, _, rfl, (fun h => by cases h), rfl⟩
          simp [execOp, go_sem, hx75, q1, q2, q3, i1, i2]
        · have d0 : U[640]?.getD undef = .slice (some ⟨g, 0, none⟩) xs.length cp := slot_of (chain_of (hdep ⟨0, .data⟩ (by simp) rfl (by decide)) rfl) rfl
          have d1 : U[641]?.getD undef = .int .i64 k0 := slot_of (chain_of (hdep ⟨1, .data⟩ (by simp) rfl (by decide)) rfl) rfl
          refine step_of_run (v := .pointer (some ⟨g, k0, none⟩)) (w' := _) ?_ ⟨rfl, _, rfl, (fun h => by cases h), rfl⟩
          simp [execOp, go_sem, d0, d1, q1, q2, q3, i1, i2]
        · have d2 : U[642]?.getD undef = .pointer (some ⟨g, k0, none⟩) := slot_of (chain_of (hdep ⟨2, .data⟩ (by simp) rfl (by decide)) rfl) rfl
          refine step_of_run (v := .int .i64 x) (w' := _) ?_ ⟨rfl, _, rfl, (fun h => by cases h), rfl⟩
          simp [execOp, go_sem, d2, q1, q2, q3, i1, i2]
        · have hx58 : U[58]?.getD undef = .slice (some ⟨gw, 0, none⟩) xs.length cw := kept_of hK 58 (by decide) (by assumption)
          refine step_of_run (v := .slice (some ⟨gw, 0, none⟩) xs.length cw) (w' := _) ?_ ⟨rfl, _, rfl, (fun h => by cases h), rfl⟩
          simp [execOp, go_sem, hx58, q1, q2, q3, i1, i2]
        · have hx75 : U[75]?.getD undef = .int .i64 k0 := kept_of hK 75 (by decide) (by assumption)
          refine step_of_run (v := .int .i64 k0) (w' := _) ?_ ⟨rfl, _, rfl, (fun h => by cases h), rfl⟩
          simp [execOp, go_sem, hx75, q1, q2, q3, i1, i2]
        · have d4 : U[644]?.getD undef = .slice (some ⟨gw, 0, none⟩) xs.length cw := slot_of (chain_of (hdep ⟨4, .data⟩ (by simp) rfl (by decide)) rfl) rfl
          have d5 : U[645]?.getD undef = .int .i64 k0 := slot_of (chain_of (hdep ⟨5, .data⟩ (by simp) rfl (by decide)) rfl) rfl
          refine step_of_run (v := .pointer (some ⟨gw, k0, none⟩)) (w' := _) ?_ ⟨rfl, _, rfl, (fun h => by cases h), rfl⟩
          simp [execOp, go_sem, d4, d5, q1, q2, q3, i1, i2]
        · have d6 : U[646]?.getD undef = .pointer (some ⟨gw, k0, none⟩) := slot_of (chain_of (hdep ⟨6, .data⟩ (by simp) rfl (by decide)) rfl) rfl
          refine step_of_run (v := .int .i64 x) (w' := _) ?_ ⟨rfl, _, rfl, (fun h => by cases h), rfl⟩
          simp [execOp, go_sem, d6, q1, q2, q3, i1, i2]
        · have d3 : U[643]?.getD undef = .int .i64 x := slot_of (chain_of (hdep ⟨3, .data⟩ (by simp) rfl (by decide)) rfl) rfl
          have d7 : U[647]?.getD undef = .int .i64 x := slot_of (chain_of (hdep ⟨7, .data⟩ (by simp) rfl (by decide)) rfl) rfl
          refine step_of_run (v := .bool false) (w' := _) ?_ ⟨rfl, _, rfl, (fun h => by cases h), rfl⟩
          simp [execOp, go_sem, d3, d7, q1, q2, q3, i1, i2]
      · intro j hj hi U vs w1 hlen hU hK hSt hdep hprev
        have hj' : j < 0 := hj
        omega
      · intro U vs w2 hU hKU hlen2 hSt hval hall
        have hw2 : w2 = wr.drew := hSt
        have b648 : U[648]?.getD undef = .bool false := slot_of (chain_of (hall 8 (by decide) (by decide)) rfl) rfl
        have b75 : U[75]'(by omega) = .int .i64 k0 := at_of _ (kept_of hKU 75 (by decide) s75)
        have hK2 := Keeps.trans HK.out (Kept.keeps (lo := 81) (hi := 734) (vs := [75]) hKU (hU.trans hT.symm) (by decide))
        have HK2 := hidP hK2
        have HO2 : Hid (Only (fun _ => False) w w2) := hidP (by rw [hw2]; exact HO.out.drew)
        clear hKU hlen2 hSt hval hall hK2 hw2 s52 s58 s75 cL cg cgw
        go_upto_if 648 with fail
        refine wp_cond_at false (by simpa [Act.eval] using b648) (fun h => by cases h) (fun _ => ?_)
        go_wp2_with fail
        first | refine ⟨trivial, k - 1, by omega, ?_⟩ | refine ⟨k - 1, by omega, ?_⟩
        rw [HI.out]
        refine ⟨k0 + 1, by omega, ?_, by simp [hU], HO2.out⟩
        repeat (refine Keeps.put ?_ _ _ (by first | exact .inr ⟨by decide, by decide⟩ | exact .inl (by decide)))
        exact HK2.out
    · clear h
      go_wp2_with fail
      refine HQ.out _ _ ?_ HO.out
      repeat (refine Keeps.put ?_ _ _ (by first | exact .inr ⟨by decide, by decide⟩ | exact .inl (by decide)))
      exact HK.out
  · rw [HI.out]
    exact ⟨0, by omega, Keeps.refl, t75, Only.refl⟩
end Go.Proofs.Ybulkcawy
