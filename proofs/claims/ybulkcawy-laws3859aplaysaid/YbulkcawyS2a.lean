/-
  LawS3859APlay: where the yielding stops.
-/
import Derived.Test.YbulkcawyS1
import Derived.Test.YbulkcawyF3N
namespace Go.Proofs.Ybulkcawy
open Go.RowKit
set_option linter.unusedSimpArgs false
set_option linter.unusedVariables false
set_option maxRecDepth 100000
set_option maxHeartbeats 4000000

def headC : Code → Code
  | .seq a _ => a
  | c => c
/-- The k-th part of the function's body. -/
def ptOf (f : Go.Func) (k : Nat) : Code := headC (tailN k (f.body.getD .skip))

theorem st69 (p : Inp) (hp : p.ok) (SB : Nat) (w : World) (hS : Row w SB 3 1 (fun _ => .int .i64 0)) (T : Array Value) (Q : Exit → Act → World → Prop) (hT : T.size = 735) (t2 : T[2]?.getD undef = .bool p.keep) (t3 : T[3]?.getD undef = .int .u8 p.stopB) (t23 : T[23]?.getD undef = .int .i64 p.n) (t24 : T[24]?.getD undef = .int .i64 p.last) (t49 : T[49]?.getD undef = .pointer (some ⟨SB, 0, none⟩))
    (hQ : ∀ T' w', Keeps 81 734 [] T T' → Row w' SB 3 1 (fun _ => .int .i64 p.stopA) → Only (fun b => b = SB) w w' → w'.heap.size = w.heap.size → Q .normal ⟨T', []⟩ w') : (ptOf Yba.f3 15).wp Yba.prog Q ⟨T, []⟩ w := by
  conv in (ptOf Yba.f3 15) => whnf
  have HQ := hidP hQ
  have HS := hidP hS
  obtain ⟨NL, hNLe⟩ : ∃ NL, NL = p.n * p.last := ⟨_, rfl⟩
  have hNL : (p.n : Int) * (p.last : Int) = (NL : Int) := by rw [hNLe]; push_cast; rfl
  have hn6 := hp.n6
  have hl5 := hp.l5
  have hb : NL ≤ 6 * 5 := by rw [hNLe]; exact Nat.mul_le_mul hn6 hl5
  have wNL : IntKind.i64.wrap (NL : Int) = (NL : Int) := by rw [IntKind.wrap_i64]; omega
  have hsb := hp.sb
  have HNL := hidP hNLe
  have HP := hidP hp
  clear hQ hS hNLe hp
  go_upto_region 69 with fail
  cases hk : p.keep
  · have hs0 : p.stopA = 0 := by unfold Inp.stopA; simp [hk]
    rw [hk] at t2
    have HS0 := hidP hs0
    clear hs0 hk
    have g1 : True := trivial
    have g2 : True := trivial
    refine region_plain _ 735 hT [.bool false, .bool false, undef, undef, undef, undef, .bool false] w (by decide) (by decide) ?_ ?_
    · intro i hi U hU hK hprev
      have hi' : i < 7 := hi
      rcases (by omega : i = 0 ∨ i = 1 ∨ i = 2 ∨ i = 3 ∨ i = 4 ∨ i = 5 ∨ i = 6) with rfl | rfl | rfl | rfl | rfl | rfl | rfl
      · have hx2 : U[2]?.getD undef = .bool false := kept_of hK 2 (by decide) (by assumption)
        refine .inl ⟨want_none rfl, ?_⟩
        refine step_of_run (v := .bool false) (w' := _) ?_ ⟨rfl, _, rfl, (fun h => by cases h), rfl⟩
        simp [execOp, go_sem, hx2, hNL, wNL, g1, g2]
      · have d0 : U[288]?.getD undef = .bool false := slot_of (hprev 0 (by decide)) rfl
        refine .inl ⟨want_none rfl, ?_⟩
        refine step_of_run (v := .bool false) (w' := _) ?_ ⟨rfl, _, rfl, (fun h => by cases h), rfl⟩
        simp [execOp, go_sem, d0, hNL, wNL, g1, g2]
      · exact .inr ⟨skip_of (d := 289) rfl rfl (by omega) (slot_of (hprev 1 (by decide)) rfl), rfl⟩
      · exact .inr ⟨skip_of (d := 289) rfl rfl (by omega) (slot_of (hprev 1 (by decide)) rfl), rfl⟩
      · exact .inr ⟨skip_of (d := 289) rfl rfl (by omega) (slot_of (hprev 1 (by decide)) rfl), rfl⟩
      · exact .inr ⟨skip_of (d := 289) rfl rfl (by omega) (slot_of (hprev 1 (by decide)) rfl), rfl⟩
      · have d1 : U[289]?.getD undef = .bool false := slot_of (hprev 1 (by decide)) rfl
        have d5 : U[293]?.getD undef = undef := slot_of (hprev 5 (by decide)) rfl
        refine .inl ⟨want_none rfl, ?_⟩
        refine step_of_run (v := .bool false) (w' := _) ?_ ⟨rfl, _, rfl, (fun h => by cases h), rfl⟩
        simp [execOp, go_sem, d1, d5, hNL, wNL, g1, g2]
    · intro U hU hKU hall
      have b294 : U[294]?.getD undef = .bool false := slot_of (hall 6 (by decide)) rfl
      have HK := hidP (Kept.keeps (lo := 81) (hi := 734) (vs := []) hKU (hU.trans hT.symm) (by decide))
      clear hall hKU
      go_upto_if 294 with fail
      refine wp_cond_at false (by simpa [Act.eval] using b294) (fun h => by cases h) (fun _ => ?_)
      go_wp2_with fail
      first | refine HQ.out _ _ HK.out ?_ Only.refl rfl | refine ⟨trivial, HQ.out _ _ HK.out ?_ Only.refl rfl⟩
      rw [HS0.out]
      exact HS.out
  · rw [hk] at t2
    by_cases hpos : 0 < NL
    · have hs0 : p.stopA = p.stopB % (NL + 1) := by unfold Inp.stopA; rw [HNL.out] at hpos; rw [if_pos ⟨hk, hpos⟩, HNL.out]
      obtain ⟨sv, hsv⟩ : ∃ sv, sv = p.stopB % (NL + 1) := ⟨_, rfl⟩
      have hmod : ((p.stopB : Nat) : Int) % ((NL : Int) + 1) = (sv : Int) := by rw [hsv]; push_cast; rfl
      have hmod' : Int.tmod ((p.stopB : Nat) : Int) ((NL : Int) + 1) = (sv : Int) := by rw [hsv]; rfl
      have hsvl : sv < NL + 1 := by rw [hsv]; exact Nat.mod_lt _ (by omega)
      have HS0 := hidP (hs0.trans hsv.symm)
      have g1 : (0 : Int) < (NL : Int) := by omega
      have g2 := hpos
      clear hs0 hsv hk
      refine region_plain _ 735 hT [.bool true, .bool true, .int .i64 p.n, .int .i64 p.last, .int .i64 NL, .bool true, .bool true] w (by decide) (by decide) ?_ ?_
      · intro i hi U hU hK hprev
        have hi' : i < 7 := hi
        rcases (by omega : i = 0 ∨ i = 1 ∨ i = 2 ∨ i = 3 ∨ i = 4 ∨ i = 5 ∨ i = 6) with rfl | rfl | rfl | rfl | rfl | rfl | rfl
        · have hx2 : U[2]?.getD undef = .bool true := kept_of hK 2 (by decide) (by assumption)
          refine .inl ⟨want_none rfl, ?_⟩
          refine step_of_run (v := .bool true) (w' := _) ?_ ⟨rfl, _, rfl, (fun h => by cases h), rfl⟩
          simp [execOp, go_sem, hx2, hNL, wNL, g1, g2]
        · have d0 : U[288]?.getD undef = .bool true := slot_of (hprev 0 (by decide)) rfl
          refine .inl ⟨want_none rfl, ?_⟩
          refine step_of_run (v := .bool true) (w' := _) ?_ ⟨rfl, _, rfl, (fun h => by cases h), rfl⟩
          simp [execOp, go_sem, d0, hNL, wNL, g1, g2]
        · have hx23 : U[23]?.getD undef = .int .i64 p.n := kept_of hK 23 (by decide) (by assumption)
          refine .inl ⟨want_of (d := 289) rfl rfl (by omega) (slot_of (hprev 1 (by decide)) rfl), ?_⟩
          refine step_of_run (v := .int .i64 p.n) (w' := _) ?_ ⟨rfl, _, rfl, (fun h => by cases h), rfl⟩
          simp [execOp, go_sem, hx23, hNL, wNL, g1, g2]
        · have hx24 : U[24]?.getD undef = .int .i64 p.last := kept_of hK 24 (by decide) (by assumption)
          refine .inl ⟨want_of (d := 289) rfl rfl (by omega) (slot_of (hprev 1 (by decide)) rfl), ?_⟩
          refine step_of_run (v := .int .i64 p.last) (w' := _) ?_ ⟨rfl, _, rfl, (fun h => by cases h), rfl⟩
          simp [execOp, go_sem, hx24, hNL, wNL, g1, g2]
        · have d2 : U[290]?.getD undef = .int .i64 p.n := slot_of (hprev 2 (by decide)) rfl
          have d3 : U[291]?.getD undef = .int .i64 p.last := slot_of (hprev 3 (by decide)) rfl
          refine .inl ⟨want_of (d := 289) rfl rfl (by omega) (slot_of (hprev 1 (by decide)) rfl), ?_⟩
          refine step_of_run (v := .int .i64 NL) (w' := _) ?_ ⟨rfl, _, rfl, (fun h => by cases h), rfl⟩
          simp [execOp, go_sem, d2, d3, hNL, wNL, g1, g2]
        · have d4 : U[292]?.getD undef = .int .i64 NL := slot_of (hprev 4 (by decide)) rfl
          refine .inl ⟨want_of (d := 289) rfl rfl (by omega) (slot_of (hprev 1 (by decide)) rfl), ?_⟩
          refine step_of_run (v := .bool true) (w' := _) ?_ ⟨rfl, _, rfl, (fun h => by cases h), rfl⟩
          simp [execOp, go_sem, d4, hNL, wNL, g1, g2]
        · have d1 : U[289]?.getD undef = .bool true := slot_of (hprev 1 (by decide)) rfl
          have d5 : U[293]?.getD undef = .bool true := slot_of (hprev 5 (by decide)) rfl
          refine .inl ⟨want_none rfl, ?_⟩
          refine step_of_run (v := .bool true) (w' := _) ?_ ⟨rfl, _, rfl, (fun h => by cases h), rfl⟩
          simp [execOp, go_sem, d1, d5, hNL, wNL, g1, g2]
      · intro U hU hKU hall
        have b294 : U[294]?.getD undef = .bool true := slot_of (hall 6 (by decide)) rfl
        have HK := hidP (Kept.keeps (lo := 81) (hi := 734) (vs := []) hKU (hU.trans hT.symm) (by decide))
        have a3 : U[3]'(by omega) = _ := at_of _ (kept_of hKU 3 (by decide) t3)
        have a23 : U[23]'(by omega) = _ := at_of _ (kept_of hKU 23 (by decide) t23)
        have a24 : U[24]'(by omega) = _ := at_of _ (kept_of hKU 24 (by decide) t24)
        have a49 : U[49]'(by omega) = _ := at_of _ (kept_of hKU 49 (by decide) t49)
        have cS : w.cell? ⟨SB, 0, none⟩ = some (.int .i64 0) := HS.out.cell 0 (by omega)
        have fS : w.frozen? ⟨SB, 0, none⟩ = false := HS.out.frozen 0
        have n0 : ¬ ((NL : Int) + 1 = 0) := by omega
        have wN1 : IntKind.i64.wrap ((NL : Int) + 1) = (NL : Int) + 1 := by rw [IntKind.wrap_i64]; omega
        have wsb : IntKind.i64.wrap ((p.stopB : Nat) : Int) = ((p.stopB : Nat) : Int) := by rw [IntKind.wrap_i64]; omega
        have wsv : IntKind.i64.wrap (sv : Int) = (sv : Int) := by rw [IntKind.wrap_i64]; omega
        clear hall hKU
        go_upto_if 294 with fail
        refine wp_cond_at true (by simpa [Act.eval] using b294) (fun _ => ?_) (fun h => by cases h)
        go_wp2_with fail
        first | refine HQ.out _ _ ?_ ?_ ?_ ?_ | refine ⟨trivial, HQ.out _ _ ?_ ?_ ?_ ?_⟩
        · repeat (refine Keeps.put ?_ _ _ (by first | exact .inr ⟨by decide, by decide⟩ | exact .inl (by decide)))
          exact HK.out
        · rw [HS0.out]
          refine (HS.out.set 0 _).ext fun x hx => ?_
          rw [if_pos (by omega)]
        · exact Only.setCell (S := fun b => b = SB) Only.refl (fun _ => rfl) _
        · simp [World.setCell]
    · have hs0 : p.stopA = 0 := by unfold Inp.stopA; rw [HNL.out] at hpos; rw [if_neg (fun h => hpos h.2)]
      have HS0 := hidP hs0
      obtain rfl : NL = 0 := by omega
      have g1 : IntKind.i64.wrap 0 = 0 := by rw [IntKind.wrap_i64]; omega
      have g2 : True := trivial
      clear hs0 hk hpos
      refine region_plain _ 735 hT [.bool true, .bool true, .int .i64 p.n, .int .i64 p.last, .int .i64 (0 : Nat), .bool false, .bool false] w (by decide) (by decide) ?_ ?_
      · intro i hi U hU hK hprev
        have hi' : i < 7 := hi
        rcases (by omega : i = 0 ∨ i = 1 ∨ i = 2 ∨ i = 3 ∨ i = 4 ∨ i = 5 ∨ i = 6) with rfl | rfl | rfl | rfl | rfl | rfl | rfl
        · have hx2 : U[2]?.getD undef = .bool true := kept_of hK 2 (by decide) (by assumption)
          refine .inl ⟨want_none rfl, ?_⟩
          refine step_of_run (v := .bool true) (w' := _) ?_ ⟨rfl, _, rfl, (fun h => by cases h), rfl⟩
          simp [execOp, go_sem, hx2, hNL, wNL, g1, g2]
        · have d0 : U[288]?.getD undef = .bool true := slot_of (hprev 0 (by decide)) rfl
          refine .inl ⟨want_none rfl, ?_⟩
          refine step_of_run (v := .bool true) (w' := _) ?_ ⟨rfl, _, rfl, (fun h => by cases h), rfl⟩
          simp [execOp, go_sem, d0, hNL, wNL, g1, g2]
        · have hx23 : U[23]?.getD undef = .int .i64 p.n := kept_of hK 23 (by decide) (by assumption)
          refine .inl ⟨want_of (d := 289) rfl rfl (by omega) (slot_of (hprev 1 (by decide)) rfl), ?_⟩
          refine step_of_run (v := .int .i64 p.n) (w' := _) ?_ ⟨rfl, _, rfl, (fun h => by cases h), rfl⟩
          simp [execOp, go_sem, hx23, hNL, wNL, g1, g2]
        · have hx24 : U[24]?.getD undef = .int .i64 p.last := kept_of hK 24 (by decide) (by assumption)
          refine .inl ⟨want_of (d := 289) rfl rfl (by omega) (slot_of (hprev 1 (by decide)) rfl), ?_⟩
          refine step_of_run (v := .int .i64 p.last) (w' := _) ?_ ⟨rfl, _, rfl, (fun h => by cases h), rfl⟩
          simp [execOp, go_sem, hx24, hNL, wNL, g1, g2]
        · have d2 : U[290]?.getD undef = .int .i64 p.n := slot_of (hprev 2 (by decide)) rfl
          have d3 : U[291]?.getD undef = .int .i64 p.last := slot_of (hprev 3 (by decide)) rfl
          refine .inl ⟨want_of (d := 289) rfl rfl (by omega) (slot_of (hprev 1 (by decide)) rfl), ?_⟩
          refine step_of_run (v := .int .i64 (0 : Nat)) (w' := _) ?_ ⟨rfl, _, rfl, (fun h => by cases h), rfl⟩
          simp [execOp, go_sem, d2, d3, hNL, wNL, g1, g2]
        · have d4 : U[292]?.getD undef = .int .i64 (0 : Nat) := slot_of (hprev 4 (by decide)) rfl
          refine .inl ⟨want_of (d := 289) rfl rfl (by omega) (slot_of (hprev 1 (by decide)) rfl), ?_⟩
          refine step_of_run (v := .bool false) (w' := _) ?_ ⟨rfl, _, rfl, (fun h => by cases h), rfl⟩
          simp [execOp, go_sem, d4, hNL, wNL, g1, g2]
        · have d1 : U[289]?.getD undef = .bool true := slot_of (hprev 1 (by decide)) rfl
          have d5 : U[293]?.getD undef = .bool false := slot_of (hprev 5 (by decide)) rfl
          refine .inl ⟨want_none rfl, ?_⟩
          refine step_of_run (v := .bool false) (w' := _) ?_ ⟨rfl, _, rfl, (fun h => by cases h), rfl⟩
          simp [execOp, go_sem, d1, d5, hNL, wNL, g1, g2]
      · intro U hU hKU hall
        have b294 : U[294]?.getD undef = .bool false := slot_of (hall 6 (by decide)) rfl
        have HK := hidP (Kept.keeps (lo := 81) (hi := 734) (vs := []) hKU (hU.trans hT.symm) (by decide))
        clear hall hKU
        go_upto_if 294 with fail
        refine wp_cond_at false (by simpa [Act.eval] using b294) (fun h => by cases h) (fun _ => ?_)
        go_wp2_with fail
        first | refine HQ.out _ _ HK.out ?_ Only.refl rfl | refine ⟨trivial, HQ.out _ _ HK.out ?_ Only.refl rfl⟩
        rw [HS0.out]
        exact HS.out
end Go.Proofs.Ybulkcawy
