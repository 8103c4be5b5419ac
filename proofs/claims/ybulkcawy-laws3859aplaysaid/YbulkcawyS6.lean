/-
  LawS3859APlay: the whole.
-/
import Derived.Test.YbulkcawyS5
namespace Go.Proofs.Ybulkcawy
open Go.RowKit
set_option linter.unusedSimpArgs false
set_option linter.unusedVariables false
set_option maxRecDepth 100000
set_option maxHeartbeats 4000000

theorem play_walk (p : Inp) (hp : p.ok) (x0 x1 : Nat) (hx0 : x0 ≤ 255) (hx1 : x1 ≤ 255) (hn : p.n = 1 + x0 % 6) (hl : p.last = x1 % 6) (v4 v5 v6 v7 v8 v9 v10 : Value) (w : World)
    (hb4 : BytesAt w w.heap.size v4 p.lc p.fc) (hb5 : BytesAt w w.heap.size v5 p.lr p.fr) (hb6 : BytesAt w w.heap.size v6 p.ld p.fd) (hb7 : BytesAt w w.heap.size v7 p.lq p.fq) (hb8 : BytesAt w w.heap.size v8 p.lo p.fo) (hb9 : BytesAt w w.heap.size v9 p.lm p.fm) (hb10 : BytesAt w w.heap.size v10 p.le p.fe) :
    Calls Yba.prog 3 #[.int .u8 (x0 : Int), .int .u8 (x1 : Int), .bool p.keep, .int .u8 (p.stopB : Int), v4, v5, v6, v7, v8, v9, v10] w fun e w' => e = .returned (.bool true) ∧ Below w.heap.size w w' := by
  refine calls_of_wp Yba.func3 rfl ?_
  refine gen_frame (fun U => U.size = 735 ∧ U[0]?.getD undef = .int .u8 x0 ∧ U[1]?.getD undef = .int .u8 x1 ∧ U[2]?.getD undef = .bool p.keep ∧ U[3]?.getD undef = .int .u8 p.stopB ∧ U[4]?.getD undef = v4 ∧ U[5]?.getD undef = v5 ∧ U[6]?.getD undef = v6 ∧ U[7]?.getD undef = v7 ∧ U[8]?.getD undef = v8 ∧ U[9]?.getD undef = v9 ∧ U[10]?.getD undef = v10) ⟨by simp [Yba.ntmps3], by simp [Yba.ntmps3], by simp [Yba.ntmps3], by simp [Yba.ntmps3], by simp [Yba.ntmps3], by simp [Yba.ntmps3], by simp [Yba.ntmps3], by simp [Yba.ntmps3], by simp [Yba.ntmps3], by simp [Yba.ntmps3], by simp [Yba.ntmps3], by simp [Yba.ntmps3]⟩ ?_
  rintro T ⟨hT, t0, t1, t2, t3, t4, t5, t6, t7, t8, t9, t10⟩
  refine st1 p hp x0 x1 hx0 hx1 hn hl (.bool p.keep) (.int .u8 p.stopB) v4 v5 v6 v7 v8 v9 v10 w hb4 hb5 hb6 hb7 hb8 hb9 hb10 T _ hT t0 t1 t2 t3 t4 t5 t6 t7 t8 t9 t10 ?_
  intro T1 w1 cv ov ev hT1 u2 u3 u23 u24 u25 u26 u27 u28 u29 u35 u36 u43 htab ho1
  refine st2 p hp w.heap.size w1.heap.size cv ov ev w1 rfl htab T1 _ hT1 u2 u3 u23 u24 u29 u36 ?_
  intro T2 w2 s1 PL g1 g2 g3 g4 PR OU SE IN fav fl reV loV hK2 x49 x51 hR ho2
  have hT2 : T2.size = 735 := hK2.1.trans hT1
  have hev : ∃ a l k, ev = .slice a l k := by
    rcases htab.ev.2 with ⟨e, _⟩ | ⟨g, cap, cur, e, _⟩
    · exact ⟨_, _, _, e⟩
    · exact ⟨_, _, _, e⟩
  refine st3 p hp w.heap.size w1.heap.size s1 w2.heap.size PL g1 g2 g3 g4 PR OU SE IN fav fl reV loV ev hev w2 rfl hR (htab.later rfl ho2).D T2 _ hT2 (hK2.get u2 (by decide) (by decide)) (hK2.get u23 (by decide) (by decide)) (hK2.get u24 (by decide) (by decide)) (hK2.get u27 (by decide) (by decide)) (hK2.get u43 (by decide) (by decide)) x49 x51 ?_
  intro T3 w3 hK3 y52 hRn
  have hT3 : T3.size = 735 := hK3.1.trans hT2
  have l := hR.low
  have ho3 : Only (fun b => w1.heap.size ≤ b) w1 w3 := ho2.trans' hRn.only (fun b hb e => by
    rcases e with e | e | e | e <;> omega)
  have hK23 : ∀ {i : Nat} {v : Value}, T1[i]?.getD undef = v → i ∉ [49, 50, 51] → i ∉ [52, 53, 54, 55, 56] → ¬ (81 ≤ i ∧ i ≤ 734) → T3[i]?.getD undef = v := fun h a b c => hK3.get (hK2.get h a c) b c
  refine st4 p hp w.heap.size w1.heap.size s1 w2.heap.size PL g1 g2 g3 g4 PR OU SE IN fav fl reV loV cv ov ev w1 w2 w3 ho1.size rfl htab ho3 rfl hR hRn T3 _ hT3 (hK23 u2 (by decide) (by decide) (by decide)) (hK23 u23 (by decide) (by decide) (by decide)) (hK23 u24 (by decide) (by decide) (by decide)) (hK23 u25 (by decide) (by decide) (by decide)) (hK23 u26 (by decide) (by decide) (by decide)) (hK23 u28 (by decide) (by decide) (by decide)) (hK23 u35 (by decide) (by decide) (by decide)) (hK23 u43 (by decide) (by decide) (by decide)) (hK3.get x49 (by decide) (by decide)) (hK3.get x51 (by decide) (by decide)) ?_
  intro T4 w4 c pp role v g CA hLay e1 e2 e3 e4 e5 e6 e7 e8 hK4 z57 z58 z59 z60 hF ho4
  have hT4 : T4.size = 735 := hK4.1.trans hT3
  refine st5 p hp c role pp hLay e1 e2 e3 e5 w.heap.size CA PL w2.heap.size OU v g e6 e7 e8 w4 hF T4 _ hT4 (hK4.get (hK23 u2 (by decide) (by decide) (by decide)) (by decide) (by decide)) (hK4.get (hK23 u23 (by decide) (by decide) (by decide)) (by decide) (by decide)) (hK4.get (hK23 u24 (by decide) (by decide) (by decide)) (by decide) (by decide)) (hK4.get (hK23 u25 (by decide) (by decide) (by decide)) (by decide) (by decide)) (hK4.get (hK23 u27 (by decide) (by decide) (by decide)) (by decide) (by decide)) (hK4.get (hK23 u35 (by decide) (by decide) (by decide)) (by decide) (by decide)) (hK4.get (hK3.get x51 (by decide) (by decide)) (by decide) (by decide)) (hK4.get y52 (by decide) (by decide)) z57 z58 z59 z60 ?_
  intro T5 w5 hT5 r22 ho5
  have a22 : T5[22]'(by omega) = _ := at_of _ r22
  have hbel : Below w.heap.size w w5 := by
    have h1 : Only (fun b => w.heap.size ≤ b) w w5 := (ho1.trans' ho4 (fun b _ e => by have := ho1.size; omega)).trans' ho5 (fun b _ e => e.elim)
    exact h1.below (Nat.le_refl _) (fun b hb => hb)
  go_wp2_with fail
  exact bodyPost_ret (v := .bool true) (by simp [results, Yba.results3, hT5, a22]) rfl ⟨rfl, hbel⟩
end Go.Proofs.Ybulkcawy
