/-
  LawS3859APlay: what the keeping of cores needs.
-/
import Derived.Test.YbulkcawyS2b
import Derived.Test.YbulkcawyF3Q
import Derived.Laws.EntriesVeiled
namespace Go.Proofs.Ybulkcawy
open Go.RowKit
set_option linter.unusedSimpArgs false
set_option linter.unusedVariables false
set_option maxRecDepth 100000
set_option maxHeartbeats 4000000

theorem info74 : (Yba.prog.info? 74).map (fun i => (i.zero, i.size, i.bytes)) = some (some .nilIface, 1, 16) := by kernel_rfl
theorem info64' : (Yba.prog.info? 64).map (fun i => (i.zero, i.size, i.bytes)) = some (some (.pointer none), 1, 8) := by kernel_rfl
theorem info37' : (Yba.prog.info? 37).map (fun i => (i.zero, i.size, i.bytes)) = some (some (.slice none 0 0), 1, 24) := by kernel_rfl
theorem makeKeepers (n : Nat) (hn : n ≤ 100000) (w : World) : (Instr.makeSlice 54 (.int .i64 (n : Int)) (.int .i64 (n : Int))).run Yba.prog w = .ok (.slice (some ⟨w.heap.size, 0, none⟩) n n) (w.alloc (.cells (madeCells #[.nilIface] n) 74)) :=
  run_make_row' (P := Yba.prog) 54 74 .nilIface 16 (by kernel_rfl) info74 rfl .i64 .i64 n (by omega) (by omega) w
theorem makeAprocs (n : Nat) (hn : n ≤ 100000) (w : World) : (Instr.makeSlice 63 (.int .i64 (n : Int)) (.int .i64 (n : Int))).run Yba.prog w = .ok (.slice (some ⟨w.heap.size, 0, none⟩) n n) (w.alloc (.cells (madeCells #[.pointer none] n) 64)) :=
  run_make_row' (P := Yba.prog) 63 64 (.pointer none) 8 (by kernel_rfl) info64' rfl .i64 .i64 n (by omega) (by omega) w
theorem makeCores (n : Nat) (hn : n ≤ 100000) (w : World) : (Instr.makeSlice 55 (.int .i64 (n : Int)) (.int .i64 (n : Int))).run Yba.prog w = .ok (.slice (some ⟨w.heap.size, 0, none⟩) n n) (w.alloc (.cells (madeCells #[.slice none 0 0] n) 37)) :=
  run_make_row' (P := Yba.prog) 55 37 (.slice none 0 0) 24 (by kernel_rfl) info37' rfl .i64 .i64 n (by omega) (by omega) w

theorem st85 (p : Inp) (hp : p.ok) (A PL PS L Y SB z : Nat) (ev : Value) (hev : ∃ a l k, ev = .slice a l k) (mP : Nat → Value) (w : World) (hz : z = w.heap.size) (hPL : Row w PL 59 19 mP) (h14 : mP 14 = .slice none 0 0) (h15 : mP 15 = .slice none 0 0) (h16 : mP 16 = .slice none 0 0) (h17 : mP 17 = .nilFunc) (hPS : Row w PS 64 (p.n + 1) (psJ A (p.n + 1))) (T : Array Value) (Q : Exit → Act → World → Prop) (hT : T.size = 735) (t2 : T[2]?.getD undef = .bool p.keep) (t23 : T[23]?.getD undef = .int .i64 p.n) (t24 : T[24]?.getD undef = .int .i64 p.last) (t43 : T[43]?.getD undef = ev) (t49 : T[49]?.getD undef = .pointer (some ⟨SB, 0, none⟩)) (t51 : T[51]?.getD undef = .pointer (some ⟨PL, 0, none⟩)) (t52 : T[52]?.getD undef = .pointer (some ⟨L, 0, none⟩)) (t53 : T[53]?.getD undef = .slice (some ⟨PS, 0, none⟩) (p.n + 1) (p.n + 1)) (t55 : T[55]?.getD undef = .pointer (some ⟨Y, 0, none⟩))
    (hQ0 : p.keep = false → ∀ T', Keeps 81 734 [56] T T' → Q .normal ⟨T', []⟩ w)
    (hQ1 : p.keep = true → ∀ T' w', Keeps 81 734 [56] T T' → Row w' PL 59 19 (fun k => if k = 17 then .func (.func 14) #[] #[.pointer (some ⟨Y, 0, none⟩), .pointer (some ⟨L, 0, none⟩), .pointer (some ⟨SB, 0, none⟩)] else if k = 16 then .slice (some ⟨(z + 1), 0, none⟩) (p.last * p.n) (p.last * p.n) else if k = 15 then ev else if k = 14 then .slice (some ⟨z, 0, none⟩) (p.n + 1) (p.n + 1) else mP k) → Row w' z 74 (p.n + 1) (procJ A (p.n + 1)) → Row w' (z + 1) 37 (p.last * p.n) (fun _ => .slice none 0 0) → Only (fun b => b = PL) w w' → w'.heap.size = z + 2 → Q .normal ⟨T', []⟩ w') : (ptOf Yba.f3 24).wp Yba.prog Q ⟨T, []⟩ w := by
  conv in (ptOf Yba.f3 24) => whnf
  have HQ0 := hidP hQ0
  have HQ1 := hidP hQ1
  have HPL := hidP hPL
  have HPS := hidP hPS
  have HZ := hidP hz
  have HM := hidP (And.intro h14 (And.intro h15 (And.intro h16 h17)))
  have HP := hidP hp
  have hn6 := hp.n6
  have hn1 := hp.n1
  have hl5 := hp.l5
  have mk1 := fun w => makeKeepers (p.n + 1) (by omega) w
  simp only [Int.natCast_add, Int.natCast_one] at mk1
  have wn1 : IntKind.i64.wrap ((p.n : Int) + 1) = (p.n : Int) + 1 := by rw [IntKind.wrap_i64]; omega
  have hPLw := hPL.lt
  have cP14 : w.cell? ⟨PL, 14, none⟩ = some (.slice none 0 0) := (hPL.cell 14 (by omega)).trans (congrArg some h14)
  have fP14 : w.frozen? ⟨PL, 14, none⟩ = false := hPL.frozen 14
  have a2 : T[2]'(by omega) = _ := at_of _ t2
  have a23 : T[23]'(by omega) = _ := at_of _ t23
  have a24 : T[24]'(by omega) = _ := at_of _ t24
  have a43 : T[43]'(by omega) = _ := at_of _ t43
  have a49 : T[49]'(by omega) = _ := at_of _ t49
  have a51 : T[51]'(by omega) = _ := at_of _ t51
  have a52 : T[52]'(by omega) = _ := at_of _ t52
  have a53 : T[53]'(by omega) = _ := at_of _ t53
  have a55 : T[55]'(by omega) = _ := at_of _ t55
  clear hQ0 hQ1 hPL hPS hz h14 h15 h16 h17 hp
  go_upto_if 385 with fail
  refine wp_cond_at p.keep (by simp [Act.eval, hT]) (fun hk => ?_) (fun hk => ?_)
  · have HK1 := hidP hk
    clear hk
    go_upto_region 87 with fail
    refine gen_both (fun T2 w2 => T2.size = 735 ∧ Keeps 81 734 [56] T T2 ∧ Row w2 PL 59 19 (fun k => if k = 14 then .slice (some ⟨z, 0, none⟩) (p.n + 1) (p.n + 1) else mP k) ∧ Row w2 z 74 (p.n + 1) (fun _ => .nilIface) ∧ Row w2 PS 64 (p.n + 1) (psJ A (p.n + 1)) ∧ Only (fun b => b = PL) w w2 ∧ w2.heap.size = z + 1) ⟨by simp [hT], ?_, ?_, ?_, ?_, ?_, ?_⟩ ?_
    · repeat (refine Keeps.put ?_ _ _ (by first | exact .inr ⟨by decide, by decide⟩ | exact .inl (by decide)))
      exact Keeps.refl
    · rw [HZ.out]
      exact (HPL.out.set 14 _).alloc _
    · have := Row.made (w.setCell ⟨PL, 14, none⟩ (.slice (some ⟨w.heap.size, 0, none⟩) (p.n + 1) (p.n + 1))) .nilIface 74 (p.n + 1)
      rw [show (w.setCell ⟨PL, 14, none⟩ (.slice (some ⟨w.heap.size, 0, none⟩) (p.n + 1) (p.n + 1))).heap.size = z by rw [HZ.out]; simp [World.setCell]] at this
      exact this
    · exact (HPS.out.far _ _ (row_ne HPS.out HPL.out (by decide))).alloc _
    · exact (Only.setCell (S := fun b => b = PL) Only.refl (fun _ => rfl) _).alloc _
    · rw [HZ.out]; simp [World.setCell]
    clear a2 a23 a24 a43 a49 a51 a52 a53 a55 mk1 wn1 cP14 fP14
    rintro T2 w2 ⟨hT2, hK2, hPL2, hKP2, hPS2, ho2, hz2⟩
    have H2 := hidP (And.intro hPL2 (And.intro hKP2 (And.intro hPS2 (And.intro ho2 hz2))))
    have HK2 := hidP hK2
    clear hPL2 hKP2 hPS2 ho2 hz2 hK2
    go_upto_block 16 with fail
    have hK2' : Keeps 81 734 [56] T (T2.setIfInBounds 56 (.int .i64 1)) := HK2.out.put _ _ (.inl (by decide))
    refine f3_16 p.n hn1 hn6 A PL PS z _ w2 H2.out.1 (by rfl) H2.out.2.2.1 H2.out.2.1 _ _ (by simp [hT2]) (hK2'.get t23 (by decide) (by decide)) (hK2'.get t51 (by decide) (by decide)) (hK2'.get t53 (by decide) (by decide)) (by simp [hT2]) ?_
    intro T3 w3 hK3 hKP3 ho3 hz3
    have hT3 : T3.size = 735 := hK3.1.trans (by simp [hT2])
    have hK3' := hK2'.trans hK3
    have hPL3 := H2.out.1.only ho3 (row_ne H2.out.1 H2.out.2.1 (by decide))
    have ho3' : Only (fun b => b = PL) w w3 := H2.out.2.2.2.1.trans' ho3 (fun b hb e => by rw [e, HZ.out] at hb; omega)
    have hz3' : w3.heap.size = z + 1 := hz3.trans H2.out.2.2.2.2
    obtain ⟨ea, el, ec, hev⟩ := hev
    have cP15 : w3.cell? ⟨PL, 15, none⟩ = some (.slice none 0 0) := (hPL3.cell 15 (by omega)).trans (by rw [if_neg (by decide), HM.out.2.1])
    have cP16 : w3.cell? ⟨PL, 16, none⟩ = some (.slice none 0 0) := (hPL3.cell 16 (by omega)).trans (by rw [if_neg (by decide), HM.out.2.2.1])
    have cP17 : w3.cell? ⟨PL, 17, none⟩ = some .nilFunc := (hPL3.cell 17 (by omega)).trans (by rw [if_neg (by decide), HM.out.2.2.2])
    have fP15 : w3.frozen? ⟨PL, 15, none⟩ = false := hPL3.frozen 15
    have fP16 : w3.frozen? ⟨PL, 16, none⟩ = false := hPL3.frozen 16
    have fP17 : w3.frozen? ⟨PL, 17, none⟩ = false := hPL3.frozen 17
    have hPLlt := hPL3.lt
    have b23 := hK3'.at' hT3 23 (by decide) t23 (by decide) (by decide)
    have b24 := hK3'.at' hT3 24 (by decide) t24 (by decide) (by decide)
    have b43 := hK3'.at' hT3 43 (by decide) t43 (by decide) (by decide)
    have b49 := hK3'.at' hT3 49 (by decide) t49 (by decide) (by decide)
    have b51 := hK3'.at' hT3 51 (by decide) t51 (by decide) (by decide)
    have b52 := hK3'.at' hT3 52 (by decide) t52 (by decide) (by decide)
    have b55 := hK3'.at' hT3 55 (by decide) t55 (by decide) (by decide)
    have H3 := hidP (And.intro hPL3 (And.intro hKP3 (And.intro ho3' hz3')))
    have HK3 := hidP hK3'
    obtain ⟨NN, hNN⟩ : ∃ NN, NN = p.last * p.n := ⟨_, rfl⟩
    have hNI : (p.last : Int) * (p.n : Int) = (NN : Int) := by rw [hNN]; push_cast; rfl
    have hNB : NN ≤ 5 * 6 := by rw [hNN]; exact Nat.mul_le_mul hl5 hn6
    have wNN : IntKind.i64.wrap (NN : Int) = (NN : Int) := by rw [IntKind.wrap_i64]; omega
    have mk2 := fun w => makeCores NN (by omega) w
    have HNN := hidP hNN
    clear hK3 hK3' hK2' HK2 H2 hPL3 hKP3 ho3 ho3' hz3 hz3' hNN t2 t23 t24 t43 t49 t51 t52 t53 t55
    have HEV := hidP hev
    subst hev
    go_upto_region 93 with fail
    refine gen_both (fun T2 w2 => T2.size = 735 ∧ Keeps 81 734 [56] T T2 ∧ T2[49]?.getD undef = .pointer (some ⟨SB, 0, none⟩) ∧ T2[51]?.getD undef = .pointer (some ⟨PL, 0, none⟩) ∧ T2[52]?.getD undef = .pointer (some ⟨L, 0, none⟩) ∧ T2[55]?.getD undef = .pointer (some ⟨Y, 0, none⟩) ∧ Row w2 PL 59 19 (fun k => if k = 16 then .slice (some ⟨(z + 1), 0, none⟩) (p.last * p.n) (p.last * p.n) else if k = 15 then .slice ea el ec else if k = 14 then .slice (some ⟨z, 0, none⟩) (p.n + 1) (p.n + 1) else mP k) ∧ Row w2 z 74 (p.n + 1) (procJ A (p.n + 1)) ∧ Row w2 (z + 1) 37 (p.last * p.n) (fun _ => .slice none 0 0) ∧ Only (fun b => b = PL) w w2 ∧ w2.heap.size = z + 2) ⟨by simp [hT3], ?_, by simp [hT3, b49, b51, b52, b55], by simp [hT3, b49, b51, b52, b55], by simp [hT3, b49, b51, b52, b55], by simp [hT3, b49, b51, b52, b55], ?_, ?_, ?_, ?_, ?_⟩ ?_
    · repeat (refine Keeps.put ?_ _ _ (by first | exact .inr ⟨by decide, by decide⟩ | exact .inl (by decide)))
      exact HK3.out
    · have h := ((H3.out.1.set 15 (.slice ea el ec)).set 16 (.slice (some ⟨w3.heap.size, 0, none⟩) NN NN)).alloc (.cells (madeCells #[.slice none 0 0] NN) 37)
      rw [H3.out.2.2.2, HNN.out] at h
      rw [H3.out.2.2.2, HNN.out]
      exact h
    · exact ((H3.out.2.1.far _ _ (row_ne H3.out.2.1 H3.out.1 (by decide))).far _ _ (row_ne H3.out.2.1 H3.out.1 (by decide))).alloc _
    · have := Row.made ((w3.setCell ⟨PL, 15, none⟩ (.slice ea el ec)).setCell ⟨PL, 16, none⟩ (.slice (some ⟨w3.heap.size, 0, none⟩) NN NN)) (.slice none 0 0) 37 NN
      rw [show ((w3.setCell ⟨PL, 15, none⟩ (.slice ea el ec)).setCell ⟨PL, 16, none⟩ (.slice (some ⟨w3.heap.size, 0, none⟩) NN NN)).heap.size = z + 1 by rw [← H3.out.2.2.2]; simp [World.setCell]] at this
      rw [← HNN.out]
      exact this
    · exact ((H3.out.2.2.1.setCell (fun _ => rfl) _).setCell (fun _ => rfl) _).alloc _
    · have := H3.out.2.2.2
      simp [World.setCell, this]
    clear b23 b24 b43 b49 b51 b52 b55 mk2 cP15 cP16 cP17 fP15 fP16 fP17 H3 HK3 hPLlt
    rintro T2 w2 ⟨hT2, hK2, s49, s51, s52, s55, hPL2, hKP2, hCO2, ho2, hz2⟩
    have c49 : T2[49]'(by omega) = _ := at_of _ s49
    have c51 : T2[51]'(by omega) = _ := at_of _ s51
    have c52 : T2[52]'(by omega) = _ := at_of _ s52
    have c55 : T2[55]'(by omega) = _ := at_of _ s55
    have cP17 : w2.cell? ⟨PL, 17, none⟩ = some .nilFunc := (hPL2.cell 17 (by omega)).trans (by rw [if_neg (by decide), if_neg (by decide), if_neg (by decide), HM.out.2.2.2])
    have fP17 : w2.frozen? ⟨PL, 17, none⟩ = false := hPL2.frozen 17
    have H2 := hidP (And.intro hPL2 (And.intro hKP2 (And.intro hCO2 (And.intro ho2 hz2))))
    have HK2 := hidP hK2
    clear hPL2 hKP2 hCO2 ho2 hz2 hK2 s49 s51 s52 s55
    go_wp2_with fail
    refine HQ1.out HK1.out _ _ ?_ ?_ ?_ ?_ ?_ ?_
    · repeat (refine Keeps.put ?_ _ _ (by first | exact .inr ⟨by decide, by decide⟩ | exact .inl (by decide)))
      exact HK2.out
    · exact H2.out.1.set 17 _
    · exact H2.out.2.1.far _ _ (row_ne H2.out.2.1 H2.out.1 (by decide))
    · exact H2.out.2.2.1.far _ _ (row_ne H2.out.2.2.1 H2.out.1 (by decide))
    · exact H2.out.2.2.2.1.setCell (fun _ => rfl) _
    · have := H2.out.2.2.2.2
      simp [World.setCell, this]
  · go_wp2_with fail
    first | refine HQ0.out hk _ ?_ | refine ⟨trivial, HQ0.out hk _ ?_⟩
    repeat (refine Keeps.put ?_ _ _ (by first | exact .inr ⟨by decide, by decide⟩ | exact .inl (by decide)))
    exact Keeps.refl
end Go.Proofs.Ybulkcawy
