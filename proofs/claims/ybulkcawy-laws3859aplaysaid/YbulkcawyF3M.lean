/-
  LawS3859APlay: the processes are made.
-/
import Derived.Test.YbulkcawyF3L
namespace Go.Proofs.Ybulkcawy
open Go.RowKit
set_option linter.unusedSimpArgs false
set_option linter.unusedVariables false
set_option maxRecDepth 100000
set_option maxHeartbeats 8000000

def outZ (x : Nat) : Value := if x % 5 = 1 then .bool false else .int .i64 0
/-- The outcomes, those of the first j processes laid. -/
def outJ (cr : Nat → Nat) (j x : Nat) : Value := if x < j * 5 then outM cr (fun _ => none) x else outZ x
def procJ (A q x : Nat) : Value := if 1 ≤ x ∧ x < q then .iface 64 (.pointer (some ⟨A + (x - 1), 0, none⟩)) else .nilIface
def psJ (A q x : Nat) : Value := if 1 ≤ x ∧ x < q then .pointer (some ⟨A + (x - 1), 0, none⟩) else .pointer none
def sentJ (q x : Nat) : Value := if 1 ≤ x ∧ x < q then msgV (some ((x : Int) * 100 + 1)) else .nilIface
/-- What is made of the processes so far. -/
structure MadeQ (n A L : Nat) (PR OU SE PS : Nat) (cr dc : Nat → Nat) (q1 q2 q3 q : Nat) (w0 w : World) : Prop where
  m1 : Row w PR 69 (n + 1) (procJ A q1)
  m2 : Row w OU 71 (n * 5) (outJ cr (q2 - 1))
  m3 : Row w SE 20 (n + 1) (sentJ q3)
  m4 : Row w PS 64 (n + 1) (psJ A q)
  m5 : ∀ x, 1 ≤ x → x < q → Row w (A + (x - 1)) 67 4 (aprocM x (dc x) 0 L)
  m6 : w.heap.size = A + (q - 1)
  m7 : Only (fun b => b = PR ∨ b = OU ∨ b = SE ∨ b = PS) w0 w
abbrev Made (n A L : Nat) (PR OU SE PS : Nat) (cr dc : Nat → Nat) (q : Nat) (w0 w : World) : Prop := MadeQ n A L PR OU SE PS cr dc q q q q w0 w
section
variable {n A L PR OU SE PS q q1 q2 q3 : Nat} {cr dc : Nat → Nat} {w0 w w1 : World}
theorem MadeQ.ne (h : MadeQ n A L PR OU SE PS cr dc q1 q2 q3 q w0 w) {b : Nat} {t : TypeId} {k : Nat} {m : Nat → Value} (hr : Row w b t k m) (h1 : t ≠ 69) (h2 : t ≠ 71) (h3 : t ≠ 20) (h4 : t ≠ 64) : ¬ (b = PR ∨ b = OU ∨ b = SE ∨ b = PS) := by
  rintro (e | e | e | e)
  · exact row_ne hr h.m1 h1 e
  · exact row_ne hr h.m2 h2 e
  · exact row_ne hr h.m3 h3 e
  · exact row_ne hr h.m4 h4 e
theorem MadeQ.drew (h : MadeQ n A L PR OU SE PS cr dc q1 q2 q3 q w0 w) : MadeQ n A L PR OU SE PS cr dc q1 q2 q3 q w0 w.drew :=
  ⟨h.m1.drew, h.m2.drew, h.m3.drew, h.m4.drew, fun x a b => (h.m5 x a b).drew, h.m6, h.m7.drew⟩
theorem MadeQ.boxed (h : MadeQ n A L PR OU SE PS cr dc q1 q2 q3 q w0 w) (hq : 1 ≤ q) :
    MadeQ n A L PR OU SE PS cr dc q1 q2 q3 (q + 1) w0 ((w.setCell ⟨PS, q, none⟩ (.pointer (some ⟨w.heap.size, 0, none⟩))).alloc (.cells #[.int .i64 q, .int .i64 (dc q), .int .i64 0, .pointer (some ⟨L, 0, none⟩)] 67)) := by
  have hs : (w.setCell ⟨PS, q, none⟩ (.pointer (some ⟨w.heap.size, 0, none⟩))).heap.size = w.heap.size := by simp [World.setCell]
  refine ⟨(h.m1.far _ _ (row_ne h.m1 h.m4 (by decide))).alloc _, (h.m2.far _ _ (row_ne h.m2 h.m4 (by decide))).alloc _, (h.m3.far _ _ (row_ne h.m3 h.m4 (by decide))).alloc _, ?_, ?_, ?_, ?_⟩
  · refine ((h.m4.set q _).alloc _).ext fun x hx => ?_
    unfold psJ
    by_cases e : x = q
    · subst e
      rw [if_pos rfl, if_pos (by omega), h.m6]
    · simp only [e, if_false]
      by_cases e2 : 1 ≤ x ∧ x < q
      · rw [if_pos e2, if_pos (by omega)]
      · rw [if_neg e2, if_neg (by omega)]
  · intro x h1 h2
    by_cases e : x = q
    · subst e
      have := Row.new (w.setCell ⟨PS, x, none⟩ (.pointer (some ⟨w.heap.size, 0, none⟩))) [.int .i64 x, .int .i64 (dc x), .int .i64 0, .pointer (some ⟨L, 0, none⟩)] 67 (aprocM x (dc x) 0 L) (fun k hk => by
        simp at hk
        rcases (by omega : k = 0 ∨ k = 1 ∨ k = 2 ∨ k = 3) with rfl | rfl | rfl | rfl <;> rfl)
      have e : A + (x - 1) = w.heap.size := h.m6.symm
      rw [hs] at this
      rw [e]
      exact this
    · have := h.m5 x h1 (by omega)
      exact (this.far _ _ (row_ne this h.m4 (by decide))).alloc _
  · simp [World.alloc, World.setCell, h.m6]; omega
  · exact (h.m7.setCell (fun _ => .inr (.inr (.inr rfl))) _).alloc _
theorem MadeQ.proc (h : MadeQ n A L PR OU SE PS cr dc q q2 q3 (q + 1) w0 w) (hq : 1 ≤ q) : MadeQ n A L PR OU SE PS cr dc (q + 1) q2 q3 (q + 1) w0 (w.setCell ⟨PR, q, none⟩ (.iface 64 (.pointer (some ⟨A + (q - 1), 0, none⟩)))) := by
  refine ⟨?_, h.m2.far _ _ (row_ne h.m2 h.m1 (by decide)), h.m3.far _ _ (row_ne h.m3 h.m1 (by decide)), h.m4.far _ _ (row_ne h.m4 h.m1 (by decide)), fun x a b => (h.m5 x a b).far _ _ (row_ne (h.m5 x a b) h.m1 (by decide)), by simp [World.setCell, h.m6], h.m7.setCell (fun _ => .inl rfl) _⟩
  refine (h.m1.set q _).ext fun x hx => ?_
  unfold procJ
  by_cases e : x = q
  · subst e
    rw [if_pos rfl, if_pos (by omega)]
  · simp only [e, if_false]
    by_cases e2 : 1 ≤ x ∧ x < q
    · rw [if_pos e2, if_pos (by omega)]
    · rw [if_neg e2, if_neg (by omega)]
theorem MadeQ.out (h : MadeQ n A L PR OU SE PS cr dc q1 q q3 (q + 1) w0 w) (hr : Row w1 OU 71 (n * 5) (outJ cr q)) (ho : Only (fun b => b = OU) w w1) (hs : w1.heap.size = w.heap.size) : MadeQ n A L PR OU SE PS cr dc q1 (q + 1) q3 (q + 1) w0 w1 := by
  refine ⟨h.m1.only ho (row_ne h.m1 h.m2 (by decide)), hr, h.m3.only ho (row_ne h.m3 h.m2 (by decide)), h.m4.only ho (row_ne h.m4 h.m2 (by decide)), fun x a b => (h.m5 x a b).only ho (row_ne (h.m5 x a b) h.m2 (by decide)), hs.trans h.m6, h.m7.trans' ho (fun b _ e => .inr (.inl e))⟩
theorem MadeQ.sent (h : MadeQ n A L PR OU SE PS cr dc q1 q2 q (q + 1) w0 w) (hq : 1 ≤ q) : MadeQ n A L PR OU SE PS cr dc q1 q2 (q + 1) (q + 1) w0 (w.setCell ⟨SE, q, none⟩ (.iface 3 (.int .i64 ((q : Int) * 100 + 1)))) := by
  refine ⟨h.m1.far _ _ (row_ne h.m1 h.m3 (by decide)), h.m2.far _ _ (row_ne h.m2 h.m3 (by decide)), ?_, h.m4.far _ _ (row_ne h.m4 h.m3 (by decide)), fun x a b => (h.m5 x a b).far _ _ (row_ne (h.m5 x a b) h.m3 (by decide)), by simp [World.setCell, h.m6], h.m7.setCell (fun _ => .inr (.inr (.inl rfl))) _⟩
  refine (h.m3.set q _).ext fun x hx => ?_
  unfold sentJ
  by_cases e : x = q
  · subst e
    rw [if_pos rfl, if_pos (by omega)]
    rfl
  · simp only [e, if_false]
    by_cases e2 : 1 ≤ x ∧ x < q
    · rw [if_pos e2, if_pos (by omega)]
    · rw [if_neg e2, if_neg (by omega)]
end
theorem outJ_step (cr : Nat → Nat) (j q cq x : Nat) (hjq : q = j + 1) (hc : cq = cr q) : (if j * 5 ≤ x ∧ x < j * 5 + ([.int .i64 q, .bool false, .int .i64 0, .int .i64 0, .int .i64 cq] : List Value).length then ([.int .i64 q, .bool false, .int .i64 0, .int .i64 0, .int .i64 cq] : List Value).getD (x - j * 5) undef else outJ cr j x) = outJ cr q x := by
  subst hjq hc
  by_cases h : j * 5 ≤ x ∧ x < j * 5 + 5
  · rw [if_pos (by simpa using h)]
    unfold outJ outM outZ
    rw [if_pos (by omega : x < (j + 1) * 5)]
    rcases (by omega : x = j * 5 ∨ x = j * 5 + 1 ∨ x = j * 5 + 2 ∨ x = j * 5 + 3 ∨ x = j * 5 + 4) with rfl | rfl | rfl | rfl | rfl
    · have e1 : j * 5 % 5 = 0 := by omega
      have e2 : j * 5 / 5 = j := by omega
      simp
    · have e1 : (j * 5 + 1) % 5 = 1 := by omega
      simp [e1]
    · have e1 : (j * 5 + 2) % 5 = 2 := by omega
      simp [e1]
    · have e1 : (j * 5 + 3) % 5 = 3 := by omega
      simp [e1]
    · have e1 : (j * 5 + 4) % 5 = 4 := by omega
      have e2 : (j * 5 + 4) / 5 = j := by omega
      simp [e1, e2]
  · rw [if_neg (by simpa using h)]
    unfold outJ
    by_cases h2 : x < j * 5
    · rw [if_pos h2, if_pos (by omega : x < (j + 1) * 5)]
    · rw [if_neg h2, if_neg (by omega : ¬ x < (j + 1) * 5)]

theorem f3_14 (n : Nat) (hn1 : 1 ≤ n) (hn : n ≤ 6) (A PL C PR OU SE PS L D : Nat) (cr dc : Nat → Nat) (mP : Nat → Value) (w : World) (hA : A = w.heap.size) (hPL : Row w PL 59 19 mP) (h5 : mP 5 = .slice (some ⟨C, 0, none⟩) (n + 1) (n + 1)) (h10 : mP 10 = .slice (some ⟨PR, 0, none⟩) (n + 1) (n + 1)) (h11 : mP 11 = .slice (some ⟨OU, 0, none⟩) n n) (h12 : mP 12 = .slice (some ⟨SE, 0, none⟩) (n + 1) (n + 1)) (hC : Row w C 3 (n + 1) (fun k => .int .i64 (cr k))) (hD : Row w D 23 7 (fun k => .int .i64 (dc k)))
    (hM : Made n A L PR OU SE PS cr dc 1 w w) (T : Array Value) (Q : Exit → Act → World → Prop) (hT0 : T.size = 735) (t23 : T[23]?.getD undef = .int .i64 n) (t27 : T[27]?.getD undef = .pointer (some ⟨D, 0, none⟩)) (t51 : T[51]?.getD undef = .pointer (some ⟨PL, 0, none⟩)) (t52 : T[52]?.getD undef = .pointer (some ⟨L, 0, none⟩)) (t53 : T[53]?.getD undef = .slice (some ⟨PS, 0, none⟩) (n + 1) (n + 1)) (t54 : T[54]?.getD undef = .int .i64 1)
    (hQ : ∀ T' w', Keeps 81 734 [54] T T' → Made n A L PR OU SE PS cr dc (n + 1) w w' → Q .normal ⟨T', []⟩ w') : (blkOf Yba.f3 14).wp Yba.prog Q ⟨T, []⟩ w := by
  conv in (blkOf Yba.f3 14) => whnf
  refine wp_block ?_
  have HQ := hidP hQ
  have HPL := hidP hPL
  have HC := hidP hC
  have HD := hidP hD
  have HM := hidP hM
  have HA := hidP hA
  have hmP := hidP (And.intro h5 (And.intro h10 (And.intro h11 h12)))
  clear hQ hPL hC hD hM hA h5 h10 h11 h12
  obtain ⟨I, hI⟩ : ∃ I : Nat → Array Value → World → Prop, I = (fun k T2 wr => ∃ q, 1 ≤ q ∧ q + k = n + 1 ∧ Keeps 81 734 [54] T T2 ∧ T2[54]?.getD undef = .int .i64 q ∧ Made n A L PR OU SE PS cr dc q w wr) := ⟨_, rfl⟩
  have HI := hidP hI
  clear hI
  refine wp_loop_n I ?_ n _ _ ?_
  · intro k T2 wr hIk
    rw [HI.out] at hIk
    obtain ⟨q, hq1, hqk, hK, u54, hm⟩ := hIk
    have hT : T2.size = 735 := hK.1.trans hT0
    have a23 := hK.at' hT 23 (by decide) t23 (by decide) (by decide)
    have a27 := hK.at' hT 27 (by decide) t27 (by decide) (by decide)
    have a51 := hK.at' hT 51 (by decide) t51 (by decide) (by decide)
    have a52 := hK.at' hT 52 (by decide) t52 (by decide) (by decide)
    have a53 := hK.at' hT 53 (by decide) t53 (by decide) (by decide)
    have a54 : T2[54]'(by omega) = _ := at_of _ u54
    have HK := hidP hK
    clear hK u54
    have HMR := hidP hm
    clear hm
    go_upto_if 331 with fail
    refine wp_cond_at (decide (q ≤ n)) (by simp [Act.eval, hT]) (fun h => ?_) (fun h => ?_)
    · have hqn : q ≤ n := of_decide_eq_true h
      clear h
      refine gen_frame (fun T2 => T2.size = 735 ∧ Keeps 81 734 [54] T T2 ∧ T2[54]?.getD undef = .int .i64 q) ⟨by simp [hT], ?_, by simp [hT, a23, a27, a51, a52, a53, a54]⟩ ?_
      · repeat (refine Keeps.put ?_ _ _ (by first | exact .inr ⟨by decide, by decide⟩ | exact .inl (by decide)))
        exact HK.out
      clear a23 a27 a51 a52 a53 a54 HK hT
      clear T2
      rintro T2 ⟨hT, hK, u54⟩
      have a23 := hK.at' hT 23 (by decide) t23 (by decide) (by decide)
      have a27 := hK.at' hT 27 (by decide) t27 (by decide) (by decide)
      have a51 := hK.at' hT 51 (by decide) t51 (by decide) (by decide)
      have a52 := hK.at' hT 52 (by decide) t52 (by decide) (by decide)
      have a53 := hK.at' hT 53 (by decide) t53 (by decide) (by decide)
      have a54 : T2[54]'(by omega) = _ := at_of _ u54
      have HK := hidP hK
      clear hK u54
      have hDr : Row wr D 23 7 (fun k => .int .i64 (dc k)) := HD.out.only HMR.out.m7 (HM.out.ne HD.out (by decide) (by decide) (by decide) (by decide))
      obtain ⟨dq, hdq⟩ : ∃ dq, dq = dc q := ⟨_, rfl⟩
      obtain ⟨cq, hcq⟩ : ∃ cq, cq = cr q := ⟨_, rfl⟩
      have cD : wr.cell? ⟨D, q, none⟩ = some (.int .i64 dq) := by rw [hdq]; exact hDr.cell q (by omega)
      have cPS0 : wr.cell? ⟨PS, q, none⟩ = some (.pointer none) := (HMR.out.m4.cell q (by omega)).trans (by unfold psJ; rw [if_neg (by omega)])
      have fPS0 : wr.frozen? ⟨PS, q, none⟩ = false := HMR.out.m4.frozen _
      have hPSlt := HMR.out.m4.lt
      have i1 : (0 : Int) ≤ (q : Int) := by omega
      have i2 : (q : Int) < (n : Int) + 1 := by omega
      have i7 : (q : Int) < 7 := by omega
      have HDQ := hidP hdq
      have HCQ := hidP hcq
      clear hDr hdq hcq
      go_upto_region 80 with fail
      obtain ⟨ab, hab⟩ : ∃ ab, ab = wr.heap.size := ⟨_, rfl⟩
      have hMb : MadeQ n A L PR OU SE PS cr dc q q q (q + 1) w _ := HMR.out.boxed hq1
      rw [← HDQ.out] at hMb
      generalize hwa : World.alloc _ _ = wa at hMb ⊢
      clear hwa
      try rw [← hab] at hMb
      try rw [← hab]
      have habA : ab = A + (q - 1) := by rw [hab, HMR.out.m6]
      have HAB := hidP habA
      have HMB := hidP hMb
      clear hMb habA hab cD cPS0 fPS0 hPSlt
      refine gen_frame (fun T2 => T2.size = 735 ∧ Keeps 81 734 [54] T T2 ∧ T2[54]?.getD undef = .int .i64 q) ⟨by simp [hT], ?_, by simp [hT, a23, a27, a51, a52, a53, a54]⟩ ?_
      · repeat (refine Keeps.put ?_ _ _ (by first | exact .inr ⟨by decide, by decide⟩ | exact .inl (by decide)))
        exact HK.out
      clear a23 a27 a51 a52 a53 a54 HK hT
      clear T2
      rintro T2 ⟨hT, hK, u54⟩
      have a23 := hK.at' hT 23 (by decide) t23 (by decide) (by decide)
      have a27 := hK.at' hT 27 (by decide) t27 (by decide) (by decide)
      have a51 := hK.at' hT 51 (by decide) t51 (by decide) (by decide)
      have a52 := hK.at' hT 52 (by decide) t52 (by decide) (by decide)
      have a53 := hK.at' hT 53 (by decide) t53 (by decide) (by decide)
      have a54 : T2[54]'(by omega) = _ := at_of _ u54
      have HK := hidP hK
      clear hK u54
      have hPLa : Row wa PL 59 19 mP := HPL.out.only HMB.out.m7 (HM.out.ne HPL.out (by decide) (by decide) (by decide) (by decide))
      have cPL10 : wa.cell? ⟨PL, 10, none⟩ = some (.slice (some ⟨PR, 0, none⟩) (n + 1) (n + 1)) := (hPLa.cell 10 (by omega)).trans (congrArg some hmP.out.2.1)
      have cPS : wa.cell? ⟨PS, q, none⟩ = some (.pointer (some ⟨ab, 0, none⟩)) := (HMB.out.m4.cell q (by omega)).trans (by unfold psJ; rw [if_pos (by omega), HAB.out])
      have cPR : wa.cell? ⟨PR, q, none⟩ = some .nilIface := (HMB.out.m1.cell q (by omega)).trans (by unfold procJ; rw [if_neg (by omega)])
      have fPR : wa.frozen? ⟨PR, q, none⟩ = false := HMB.out.m1.frozen _
      have HPLa := hidP hPLa
      clear hPLa
      have s51 : T2[51]?.getD undef = .pointer (some ⟨PL, 0, none⟩) := HK.out.get t51 (by decide) (by decide)
      have s53 : T2[53]?.getD undef = .slice (some ⟨PS, 0, none⟩) (n + 1) (n + 1) := HK.out.get t53 (by decide) (by decide)
      have s54 : T2[54]?.getD undef = .int .i64 q := by simp [hT, a54]
      clear a23 a27 a51 a52 a53 a54
      refine region_chain (by kernel_rfl) _ 735 hT [some (.pointer (some ⟨PL, 0, none⟩)), some (.pointer (some ⟨PL, 0, none⟩)), some (.pointer (some ⟨PL, 10, none⟩)), some (.slice (some ⟨PR, 0, none⟩) (n + 1) (n + 1)), some (.int .i64 q), some (.slice (some ⟨PS, 0, none⟩) (n + 1) (n + 1)), some (.int .i64 q), some (.pointer (some ⟨PS, q, none⟩)), some (.pointer (some ⟨ab, 0, none⟩)), some (.iface 64 (.pointer (some ⟨ab, 0, none⟩))), none, none] [10, 11] (fun vs w1 => match vs with | [] => w1 = wa.drew | [v] => v = .pointer (some ⟨PR, q, none⟩) ∧ w1 = wa.drew | _ => w1 = wa.drew.setCell ⟨PR, q, none⟩ (.iface 64 (.pointer (some ⟨ab, 0, none⟩)))) (by decide) (by decide) (by decide) (by decide) (by decide) (by decide) ?_ ?_ ?_ rfl
      · intro i hi U vs w1 hia hU hK hSt hanc hdep
        have hi' : i < 12 := hi
        rcases (by omega : i = 0 ∨ i = 1 ∨ i = 2 ∨ i = 3 ∨ i = 4 ∨ i = 5 ∨ i = 6 ∨ i = 7 ∨ i = 8 ∨ i = 9 ∨ i = 10 ∨ i = 11) with rfl | rfl | rfl | rfl | rfl | rfl | rfl | rfl | rfl | rfl | rfl | rfl
        · have hvl := hanc 1 (by decide) (by decide)
          have hw1 : w1 = wa.drew := by
            match vs, hSt, hvl with
            | [], h, _ => exact h
            | [v], h, _ => exact h.2
          subst hw1
          have q1 : wa.drew.cell? ⟨PL, 10, none⟩ = some (.slice (some ⟨PR, 0, none⟩) (n + 1) (n + 1)) := cPL10
          have q2 : wa.drew.cell? ⟨PS, q, none⟩ = some (.pointer (some ⟨ab, 0, none⟩)) := cPS
          have hx51 : U[51]?.getD undef = .pointer (some ⟨PL, 0, none⟩) := kept_of hK 51 (by decide) (by assumption)
          refine step_of_run (v := .pointer (some ⟨PL, 0, none⟩)) (w' := _) ?_ ⟨rfl, _, rfl, (fun h => by cases h), rfl⟩
          simp [execOp, go_sem, hx51, q1, q2, i1, i2]
        · have hvl := hanc 1 (by decide) (by decide)
          have hw1 : w1 = wa.drew := by
            match vs, hSt, hvl with
            | [], h, _ => exact h
            | [v], h, _ => exact h.2
          subst hw1
          have q1 : wa.drew.cell? ⟨PL, 10, none⟩ = some (.slice (some ⟨PR, 0, none⟩) (n + 1) (n + 1)) := cPL10
          have q2 : wa.drew.cell? ⟨PS, q, none⟩ = some (.pointer (some ⟨ab, 0, none⟩)) := cPS
          have d0 : U[343]?.getD undef = .pointer (some ⟨PL, 0, none⟩) := slot_of (chain_of (hdep ⟨0, .data⟩ (by simp) rfl (by decide)) rfl) rfl
          refine step_of_run (v := .pointer (some ⟨PL, 0, none⟩)) (w' := _) ?_ ⟨rfl, _, rfl, (fun h => by cases h), rfl⟩
          simp [execOp, go_sem, d0, q1, q2, i1, i2]
        · have hvl := hanc 1 (by decide) (by decide)
          have hw1 : w1 = wa.drew := by
            match vs, hSt, hvl with
            | [], h, _ => exact h
            | [v], h, _ => exact h.2
          subst hw1
          have q1 : wa.drew.cell? ⟨PL, 10, none⟩ = some (.slice (some ⟨PR, 0, none⟩) (n + 1) (n + 1)) := cPL10
          have q2 : wa.drew.cell? ⟨PS, q, none⟩ = some (.pointer (some ⟨ab, 0, none⟩)) := cPS
          have d1 : U[344]?.getD undef = .pointer (some ⟨PL, 0, none⟩) := slot_of (chain_of (hdep ⟨1, .data⟩ (by simp) rfl (by decide)) rfl) rfl
          refine step_of_run (v := .pointer (some ⟨PL, 10, none⟩)) (w' := _) ?_ ⟨rfl, _, rfl, (fun h => by cases h), rfl⟩
          simp [execOp, go_sem, d1, q1, q2, i1, i2]
        · have hvl := hanc 1 (by decide) (by decide)
          have hw1 : w1 = wa.drew := by
            match vs, hSt, hvl with
            | [], h, _ => exact h
            | [v], h, _ => exact h.2
          subst hw1
          have q1 : wa.drew.cell? ⟨PL, 10, none⟩ = some (.slice (some ⟨PR, 0, none⟩) (n + 1) (n + 1)) := cPL10
          have q2 : wa.drew.cell? ⟨PS, q, none⟩ = some (.pointer (some ⟨ab, 0, none⟩)) := cPS
          have d2 : U[345]?.getD undef = .pointer (some ⟨PL, 10, none⟩) := slot_of (chain_of (hdep ⟨2, .data⟩ (by simp) rfl (by decide)) rfl) rfl
          refine step_of_run (v := .slice (some ⟨PR, 0, none⟩) (n + 1) (n + 1)) (w' := _) ?_ ⟨rfl, _, rfl, (fun h => by cases h), rfl⟩
          simp [execOp, go_sem, d2, q1, q2, i1, i2]
        · have hvl := hanc 1 (by decide) (by decide)
          have hw1 : w1 = wa.drew := by
            match vs, hSt, hvl with
            | [], h, _ => exact h
            | [v], h, _ => exact h.2
          subst hw1
          have q1 : wa.drew.cell? ⟨PL, 10, none⟩ = some (.slice (some ⟨PR, 0, none⟩) (n + 1) (n + 1)) := cPL10
          have q2 : wa.drew.cell? ⟨PS, q, none⟩ = some (.pointer (some ⟨ab, 0, none⟩)) := cPS
          have hx54 : U[54]?.getD undef = .int .i64 q := kept_of hK 54 (by decide) (by assumption)
          refine step_of_run (v := .int .i64 q) (w' := _) ?_ ⟨rfl, _, rfl, (fun h => by cases h), rfl⟩
          simp [execOp, go_sem, hx54, q1, q2, i1, i2]
        · have hvl := hanc 1 (by decide) (by decide)
          have hw1 : w1 = wa.drew := by
            match vs, hSt, hvl with
            | [], h, _ => exact h
            | [v], h, _ => exact h.2
          subst hw1
          have q1 : wa.drew.cell? ⟨PL, 10, none⟩ = some (.slice (some ⟨PR, 0, none⟩) (n + 1) (n + 1)) := cPL10
          have q2 : wa.drew.cell? ⟨PS, q, none⟩ = some (.pointer (some ⟨ab, 0, none⟩)) := cPS
          have hx53 : U[53]?.getD undef = .slice (some ⟨PS, 0, none⟩) (n + 1) (n + 1) := kept_of hK 53 (by decide) (by assumption)
          refine step_of_run (v := .slice (some ⟨PS, 0, none⟩) (n + 1) (n + 1)) (w' := _) ?_ ⟨rfl, _, rfl, (fun h => by cases h), rfl⟩
          simp [execOp, go_sem, hx53, q1, q2, i1, i2]
        · have hvl := hanc 1 (by decide) (by decide)
          have hw1 : w1 = wa.drew := by
            match vs, hSt, hvl with
            | [], h, _ => exact h
            | [v], h, _ => exact h.2
          subst hw1
          have q1 : wa.drew.cell? ⟨PL, 10, none⟩ = some (.slice (some ⟨PR, 0, none⟩) (n + 1) (n + 1)) := cPL10
          have q2 : wa.drew.cell? ⟨PS, q, none⟩ = some (.pointer (some ⟨ab, 0, none⟩)) := cPS
          have hx54 : U[54]?.getD undef = .int .i64 q := kept_of hK 54 (by decide) (by assumption)
          refine step_of_run (v := .int .i64 q) (w' := _) ?_ ⟨rfl, _, rfl, (fun h => by cases h), rfl⟩
          simp [execOp, go_sem, hx54, q1, q2, i1, i2]
        · have hvl := hanc 1 (by decide) (by decide)
          have hw1 : w1 = wa.drew := by
            match vs, hSt, hvl with
            | [], h, _ => exact h
            | [v], h, _ => exact h.2
          subst hw1
          have q1 : wa.drew.cell? ⟨PL, 10, none⟩ = some (.slice (some ⟨PR, 0, none⟩) (n + 1) (n + 1)) := cPL10
          have q2 : wa.drew.cell? ⟨PS, q, none⟩ = some (.pointer (some ⟨ab, 0, none⟩)) := cPS
          have d5 : U[348]?.getD undef = .slice (some ⟨PS, 0, none⟩) (n + 1) (n + 1) := slot_of (chain_of (hdep ⟨5, .data⟩ (by simp) rfl (by decide)) rfl) rfl
          have d6 : U[349]?.getD undef = .int .i64 q := slot_of (chain_of (hdep ⟨6, .data⟩ (by simp) rfl (by decide)) rfl) rfl
          refine step_of_run (v := .pointer (some ⟨PS, q, none⟩)) (w' := _) ?_ ⟨rfl, _, rfl, (fun h => by cases h), rfl⟩
          simp [execOp, go_sem, d5, d6, q1, q2, i1, i2]
        · have hvl := hanc 1 (by decide) (by decide)
          have hw1 : w1 = wa.drew := by
            match vs, hSt, hvl with
            | [], h, _ => exact h
            | [v], h, _ => exact h.2
          subst hw1
          have q1 : wa.drew.cell? ⟨PL, 10, none⟩ = some (.slice (some ⟨PR, 0, none⟩) (n + 1) (n + 1)) := cPL10
          have q2 : wa.drew.cell? ⟨PS, q, none⟩ = some (.pointer (some ⟨ab, 0, none⟩)) := cPS
          have d7 : U[350]?.getD undef = .pointer (some ⟨PS, q, none⟩) := slot_of (chain_of (hdep ⟨7, .data⟩ (by simp) rfl (by decide)) rfl) rfl
          refine step_of_run (v := .pointer (some ⟨ab, 0, none⟩)) (w' := _) ?_ ⟨rfl, _, rfl, (fun h => by cases h), rfl⟩
          simp [execOp, go_sem, d7, q1, q2, i1, i2]
        · have hvl := hanc 1 (by decide) (by decide)
          have hw1 : w1 = wa.drew := by
            match vs, hSt, hvl with
            | [], h, _ => exact h
            | [v], h, _ => exact h.2
          subst hw1
          have q1 : wa.drew.cell? ⟨PL, 10, none⟩ = some (.slice (some ⟨PR, 0, none⟩) (n + 1) (n + 1)) := cPL10
          have q2 : wa.drew.cell? ⟨PS, q, none⟩ = some (.pointer (some ⟨ab, 0, none⟩)) := cPS
          have d8 : U[351]?.getD undef = .pointer (some ⟨ab, 0, none⟩) := slot_of (chain_of (hdep ⟨8, .data⟩ (by simp) rfl (by decide)) rfl) rfl
          refine step_of_run (v := .iface 64 (.pointer (some ⟨ab, 0, none⟩))) (w' := _) ?_ ⟨rfl, _, rfl, (fun h => by cases h), rfl⟩
          simp [execOp, go_sem, d8, q1, q2, i1, i2]
        · exact absurd (by decide) hia
        · exact absurd (by decide) hia
      · intro j hj hi U vs w1 hlen hU hK hSt hdep hprev
        have hj' : j < 2 := hj
        rcases (by omega : j = 0 ∨ j = 1) with rfl | rfl
        · obtain rfl : vs = [] := List.eq_nil_of_length_eq_zero hlen
          have d3 : U[346]?.getD undef = .slice (some ⟨PR, 0, none⟩) (n + 1) (n + 1) := slot_of (chain_of (hdep ⟨3, .data⟩ (by simp) rfl (by decide)) rfl) rfl
          have d4 : U[347]?.getD undef = .int .i64 q := slot_of (chain_of (hdep ⟨4, .data⟩ (by simp) rfl (by decide)) rfl) rfl
          have hw1 : w1 = wa.drew := hSt
          subst hw1
          refine step_of_run (v := .pointer (some ⟨PR, q, none⟩)) (w' := wa.drew) ?_ ⟨_, rfl, (fun h => by cases h), rfl, rfl⟩
          simp [execOp, go_sem, i1, i2, d3, d4]
        · obtain ⟨v0, rfl⟩ : ∃ v0, vs = [v0] := by
            match vs, hlen with | [v0], _ => exact ⟨v0, rfl⟩
          have p0 : U[353]?.getD undef = v0 := slot_of (hprev 0 (by decide)) rfl
          have d9 : U[352]?.getD undef = .iface 64 (.pointer (some ⟨ab, 0, none⟩)) := slot_of (chain_of (hdep ⟨9, .data⟩ (by simp) rfl (by decide)) rfl) rfl
          obtain ⟨rfl, rfl⟩ := hSt
          have q4 : wa.drew.cell? ⟨PR, q, none⟩ = some _ := cPR
          have q5 : wa.drew.frozen? ⟨PR, q, none⟩ = false := fPR
          refine step_of_skip (w' := wa.drew.setCell ⟨PR, q, none⟩ (.iface 64 (.pointer (some ⟨ab, 0, none⟩)))) ?_ ⟨undef, rfl, (fun _ => rfl), rfl⟩
          simp [execOp, go_sem, d9, p0] at q4 q5 ⊢
          simp [q4, q5]
      · intro V vs w3 hV hKV hlen3 hSt hval hall
        have hw3 : w3 = wa.drew.setCell ⟨PR, q, none⟩ (.iface 64 (.pointer (some ⟨ab, 0, none⟩))) := by
          match vs, hlen3, hSt with
          | [_, _], _, h => exact h
        have hMc : MadeQ n A L PR OU SE PS cr dc (q + 1) q q (q + 1) w w3 := by
          have := HMB.out.drew.proc hq1
          rw [← HAB.out] at this
          rw [hw3]
          exact this
        have hKc := Keeps.trans HK.out (Kept.keeps (lo := 81) (hi := 734) (vs := [54]) hKV (hV.trans hT.symm) (by decide))
        have s54' : V[54]?.getD undef = .int .i64 q := kept_of hKV 54 (by decide) s54
        have HKc := hidP hKc
        have HMC := hidP hMc
        clear hKV hlen3 hSt hval hall hw3 hKc hMc s51 s53 s54 HK hT cPL10 cPS cPR fPR HPLa
        clear T2
        obtain ⟨wb, hwb⟩ : ∃ wb, wb = w3 := ⟨_, rfl⟩
        subst hwb
        obtain ⟨T2, hTe⟩ : ∃ T2, T2 = V := ⟨_, rfl⟩
        subst hTe
        have hT := hV
        clear hV
        have HK := HKc
        clear HKc
        have s54 := s54'
        clear s54'
        have s51 : T2[51]?.getD undef = .pointer (some ⟨PL, 0, none⟩) := HK.out.get t51 (by decide) (by decide)
        have s53 : T2[53]?.getD undef = .slice (some ⟨PS, 0, none⟩) (n + 1) (n + 1) := HK.out.get t53 (by decide) (by decide)
        have hPLb : Row wb PL 59 19 mP := HPL.out.only HMC.out.m7 (HM.out.ne HPL.out (by decide) (by decide) (by decide) (by decide))
        have hCb : Row wb C 3 (n + 1) (fun k => .int .i64 (cr k)) := HC.out.only HMC.out.m7 (HM.out.ne HC.out (by decide) (by decide) (by decide) (by decide))
        have cPL11 : wb.cell? ⟨PL, 11, none⟩ = some (.slice (some ⟨OU, 0, none⟩) n n) := (hPLb.cell 11 (by omega)).trans (congrArg some hmP.out.2.2.1)
        have cPL5 : wb.cell? ⟨PL, 5, none⟩ = some (.slice (some ⟨C, 0, none⟩) (n + 1) (n + 1)) := (hPLb.cell 5 (by omega)).trans (congrArg some hmP.out.1)
        have cPL12 : wb.cell? ⟨PL, 12, none⟩ = some (.slice (some ⟨SE, 0, none⟩) (n + 1) (n + 1)) := (hPLb.cell 12 (by omega)).trans (congrArg some hmP.out.2.2.2)
        have cC : wb.cell? ⟨C, q, none⟩ = some (.int .i64 cq) := by rw [HCQ.out]; exact hCb.cell q (by omega)
        obtain ⟨j, hjq⟩ : ∃ j, q = j + 1 := ⟨q - 1, by omega⟩
        have hjI : (q : Int) - 1 = (j : Int) := by omega
        have wrj : IntKind.i64.wrap (j : Int) = (j : Int) := by rw [IntKind.wrap_i64]; omega
        have j1 : (0 : Int) ≤ (j : Int) := by omega
        have j2 : (j : Int) < (n : Int) := by omega
        have HOU : Hid (Row wb OU 71 (n * 5) (outJ cr j)) := hidP (by have := HMC.out.m2; rw [show q - 1 = j by omega] at this; exact this)
        have hPLne : PL ≠ OU := fun e => HM.out.ne HPL.out (by decide) (by decide) (by decide) (by decide) (.inr (.inl e))
        have hPLlt := hPLb.lt
        have HPLb := hidP hPLb
        have HJQ := hidP hjq
        clear hPLb hCb hjq
        go_upto_region 81 with fail
        refine region_chain (by kernel_rfl) _ 735 hT [some (.pointer (some ⟨PL, 0, none⟩)), some (.pointer (some ⟨PL, 0, none⟩)), some (.pointer (some ⟨PL, 11, none⟩)), some (.slice (some ⟨OU, 0, none⟩) n n), some (.int .i64 q), some (.int .i64 j), some (.int .i64 q), some (.pointer (some ⟨PL, 0, none⟩)), some (.pointer (some ⟨PL, 0, none⟩)), some (.pointer (some ⟨PL, 4, none⟩)), some (.pointer (some ⟨PL, 5, none⟩)), some (.slice (some ⟨C, 0, none⟩) (n + 1) (n + 1)), some (.int .i64 q), some (.pointer (some ⟨C, q, none⟩)), some (.int .i64 cq), some (.agg #[.int .i64 q, .bool false, .int .i64 0, .int .i64 0, .int .i64 cq]), none, none] [16, 17] (fun vs w1 => match vs with | [] => w1 = wb.drew | [v] => v = .pointer (some ⟨OU, j * 5, none⟩) ∧ w1 = wb.drew | _ => Row w1 OU 71 (n * 5) (outJ cr q) ∧ Only (fun b => b = OU) wb w1 ∧ w1.heap.size = wb.heap.size) (by decide) (by decide) (by decide) (by decide) (by decide) (by decide) ?_ ?_ ?_ rfl
        · intro i hi U vs w1 hia hU hK hSt hanc hdep
          have hi' : i < 18 := hi
          rcases (by omega : i = 0 ∨ i = 1 ∨ i = 2 ∨ i = 3 ∨ i = 4 ∨ i = 5 ∨ i = 6 ∨ i = 7 ∨ i = 8 ∨ i = 9 ∨ i = 10 ∨ i = 11 ∨ i = 12 ∨ i = 13 ∨ i = 14 ∨ i = 15 ∨ i = 16 ∨ i = 17) with rfl | rfl | rfl | rfl | rfl | rfl | rfl | rfl | rfl | rfl | rfl | rfl | rfl | rfl | rfl | rfl | rfl | rfl
          · have hvl := hanc 1 (by decide) (by decide)
            have hw1 : w1 = wb.drew := by
              match vs, hSt, hvl with
              | [], h, _ => exact h
              | [v], h, _ => exact h.2
            subst hw1
            have q1 : wb.drew.cell? ⟨PL, 11, none⟩ = some (.slice (some ⟨OU, 0, none⟩) n n) := cPL11
            have q2 : wb.drew.cell? ⟨PL, 5, none⟩ = some (.slice (some ⟨C, 0, none⟩) (n + 1) (n + 1)) := cPL5
            have q3 : wb.drew.cell? ⟨C, q, none⟩ = some (.int .i64 cq) := cC
            have hx51 : U[51]?.getD undef = .pointer (some ⟨PL, 0, none⟩) := kept_of hK 51 (by decide) (by assumption)
            refine step_of_run (v := .pointer (some ⟨PL, 0, none⟩)) (w' := _) ?_ ⟨rfl, _, rfl, (fun h => by cases h), rfl⟩
            simp [execOp, go_sem, hx51, q1, q2, q3, i1, i2, hjI, wrj]
          · have hvl := hanc 1 (by decide) (by decide)
            have hw1 : w1 = wb.drew := by
              match vs, hSt, hvl with
              | [], h, _ => exact h
              | [v], h, _ => exact h.2
            subst hw1
            have q1 : wb.drew.cell? ⟨PL, 11, none⟩ = some (.slice (some ⟨OU, 0, none⟩) n n) := cPL11
            have q2 : wb.drew.cell? ⟨PL, 5, none⟩ = some (.slice (some ⟨C, 0, none⟩) (n + 1) (n + 1)) := cPL5
            have q3 : wb.drew.cell? ⟨C, q, none⟩ = some (.int .i64 cq) := cC
            have d0 : U[354]?.getD undef = .pointer (some ⟨PL, 0, none⟩) := slot_of (chain_of (hdep ⟨0, .data⟩ (by simp) rfl (by decide)) rfl) rfl
            refine step_of_run (v := .pointer (some ⟨PL, 0, none⟩)) (w' := _) ?_ ⟨rfl, _, rfl, (fun h => by cases h), rfl⟩
            simp [execOp, go_sem, d0, q1, q2, q3, i1, i2, hjI, wrj]
          · have hvl := hanc 1 (by decide) (by decide)
            have hw1 : w1 = wb.drew := by
              match vs, hSt, hvl with
              | [], h, _ => exact h
              | [v], h, _ => exact h.2
            subst hw1
            have q1 : wb.drew.cell? ⟨PL, 11, none⟩ = some (.slice (some ⟨OU, 0, none⟩) n n) := cPL11
            have q2 : wb.drew.cell? ⟨PL, 5, none⟩ = some (.slice (some ⟨C, 0, none⟩) (n + 1) (n + 1)) := cPL5
            have q3 : wb.drew.cell? ⟨C, q, none⟩ = some (.int .i64 cq) := cC
            have d1 : U[355]?.getD undef = .pointer (some ⟨PL, 0, none⟩) := slot_of (chain_of (hdep ⟨1, .data⟩ (by simp) rfl (by decide)) rfl) rfl
            refine step_of_run (v := .pointer (some ⟨PL, 11, none⟩)) (w' := _) ?_ ⟨rfl, _, rfl, (fun h => by cases h), rfl⟩
            simp [execOp, go_sem, d1, q1, q2, q3, i1, i2, hjI, wrj]
          · have hvl := hanc 1 (by decide) (by decide)
            have hw1 : w1 = wb.drew := by
              match vs, hSt, hvl with
              | [], h, _ => exact h
              | [v], h, _ => exact h.2
            subst hw1
            have q1 : wb.drew.cell? ⟨PL, 11, none⟩ = some (.slice (some ⟨OU, 0, none⟩) n n) := cPL11
            have q2 : wb.drew.cell? ⟨PL, 5, none⟩ = some (.slice (some ⟨C, 0, none⟩) (n + 1) (n + 1)) := cPL5
            have q3 : wb.drew.cell? ⟨C, q, none⟩ = some (.int .i64 cq) := cC
            have d2 : U[356]?.getD undef = .pointer (some ⟨PL, 11, none⟩) := slot_of (chain_of (hdep ⟨2, .data⟩ (by simp) rfl (by decide)) rfl) rfl
            refine step_of_run (v := .slice (some ⟨OU, 0, none⟩) n n) (w' := _) ?_ ⟨rfl, _, rfl, (fun h => by cases h), rfl⟩
            simp [execOp, go_sem, d2, q1, q2, q3, i1, i2, hjI, wrj]
          · have hvl := hanc 1 (by decide) (by decide)
            have hw1 : w1 = wb.drew := by
              match vs, hSt, hvl with
              | [], h, _ => exact h
              | [v], h, _ => exact h.2
            subst hw1
            have q1 : wb.drew.cell? ⟨PL, 11, none⟩ = some (.slice (some ⟨OU, 0, none⟩) n n) := cPL11
            have q2 : wb.drew.cell? ⟨PL, 5, none⟩ = some (.slice (some ⟨C, 0, none⟩) (n + 1) (n + 1)) := cPL5
            have q3 : wb.drew.cell? ⟨C, q, none⟩ = some (.int .i64 cq) := cC
            have hx54 : U[54]?.getD undef = .int .i64 q := kept_of hK 54 (by decide) (by assumption)
            refine step_of_run (v := .int .i64 q) (w' := _) ?_ ⟨rfl, _, rfl, (fun h => by cases h), rfl⟩
            simp [execOp, go_sem, hx54, q1, q2, q3, i1, i2, hjI, wrj]
          · have hvl := hanc 1 (by decide) (by decide)
            have hw1 : w1 = wb.drew := by
              match vs, hSt, hvl with
              | [], h, _ => exact h
              | [v], h, _ => exact h.2
            subst hw1
            have q1 : wb.drew.cell? ⟨PL, 11, none⟩ = some (.slice (some ⟨OU, 0, none⟩) n n) := cPL11
            have q2 : wb.drew.cell? ⟨PL, 5, none⟩ = some (.slice (some ⟨C, 0, none⟩) (n + 1) (n + 1)) := cPL5
            have q3 : wb.drew.cell? ⟨C, q, none⟩ = some (.int .i64 cq) := cC
            have d4 : U[358]?.getD undef = .int .i64 q := slot_of (chain_of (hdep ⟨4, .data⟩ (by simp) rfl (by decide)) rfl) rfl
            refine step_of_run (v := .int .i64 j) (w' := _) ?_ ⟨rfl, _, rfl, (fun h => by cases h), rfl⟩
            simp [execOp, go_sem, d4, q1, q2, q3, i1, i2, hjI, wrj]
          · have hvl := hanc 1 (by decide) (by decide)
            have hw1 : w1 = wb.drew := by
              match vs, hSt, hvl with
              | [], h, _ => exact h
              | [v], h, _ => exact h.2
            subst hw1
            have q1 : wb.drew.cell? ⟨PL, 11, none⟩ = some (.slice (some ⟨OU, 0, none⟩) n n) := cPL11
            have q2 : wb.drew.cell? ⟨PL, 5, none⟩ = some (.slice (some ⟨C, 0, none⟩) (n + 1) (n + 1)) := cPL5
            have q3 : wb.drew.cell? ⟨C, q, none⟩ = some (.int .i64 cq) := cC
            have hx54 : U[54]?.getD undef = .int .i64 q := kept_of hK 54 (by decide) (by assumption)
            refine step_of_run (v := .int .i64 q) (w' := _) ?_ ⟨rfl, _, rfl, (fun h => by cases h), rfl⟩
            simp [execOp, go_sem, hx54, q1, q2, q3, i1, i2, hjI, wrj]
          · have hvl := hanc 1 (by decide) (by decide)
            have hw1 : w1 = wb.drew := by
              match vs, hSt, hvl with
              | [], h, _ => exact h
              | [v], h, _ => exact h.2
            subst hw1
            have q1 : wb.drew.cell? ⟨PL, 11, none⟩ = some (.slice (some ⟨OU, 0, none⟩) n n) := cPL11
            have q2 : wb.drew.cell? ⟨PL, 5, none⟩ = some (.slice (some ⟨C, 0, none⟩) (n + 1) (n + 1)) := cPL5
            have q3 : wb.drew.cell? ⟨C, q, none⟩ = some (.int .i64 cq) := cC
            have hx51 : U[51]?.getD undef = .pointer (some ⟨PL, 0, none⟩) := kept_of hK 51 (by decide) (by assumption)
            refine step_of_run (v := .pointer (some ⟨PL, 0, none⟩)) (w' := _) ?_ ⟨rfl, _, rfl, (fun h => by cases h), rfl⟩
            simp [execOp, go_sem, hx51, q1, q2, q3, i1, i2, hjI, wrj]
          · have hvl := hanc 1 (by decide) (by decide)
            have hw1 : w1 = wb.drew := by
              match vs, hSt, hvl with
              | [], h, _ => exact h
              | [v], h, _ => exact h.2
            subst hw1
            have q1 : wb.drew.cell? ⟨PL, 11, none⟩ = some (.slice (some ⟨OU, 0, none⟩) n n) := cPL11
            have q2 : wb.drew.cell? ⟨PL, 5, none⟩ = some (.slice (some ⟨C, 0, none⟩) (n + 1) (n + 1)) := cPL5
            have q3 : wb.drew.cell? ⟨C, q, none⟩ = some (.int .i64 cq) := cC
            have d7 : U[361]?.getD undef = .pointer (some ⟨PL, 0, none⟩) := slot_of (chain_of (hdep ⟨7, .data⟩ (by simp) rfl (by decide)) rfl) rfl
            refine step_of_run (v := .pointer (some ⟨PL, 0, none⟩)) (w' := _) ?_ ⟨rfl, _, rfl, (fun h => by cases h), rfl⟩
            simp [execOp, go_sem, d7, q1, q2, q3, i1, i2, hjI, wrj]
          · have hvl := hanc 1 (by decide) (by decide)
            have hw1 : w1 = wb.drew := by
              match vs, hSt, hvl with
              | [], h, _ => exact h
              | [v], h, _ => exact h.2
            subst hw1
            have q1 : wb.drew.cell? ⟨PL, 11, none⟩ = some (.slice (some ⟨OU, 0, none⟩) n n) := cPL11
            have q2 : wb.drew.cell? ⟨PL, 5, none⟩ = some (.slice (some ⟨C, 0, none⟩) (n + 1) (n + 1)) := cPL5
            have q3 : wb.drew.cell? ⟨C, q, none⟩ = some (.int .i64 cq) := cC
            have d8 : U[362]?.getD undef = .pointer (some ⟨PL, 0, none⟩) := slot_of (chain_of (hdep ⟨8, .data⟩ (by simp) rfl (by decide)) rfl) rfl
            refine step_of_run (v := .pointer (some ⟨PL, 4, none⟩)) (w' := _) ?_ ⟨rfl, _, rfl, (fun h => by cases h), rfl⟩
            simp [execOp, go_sem, d8, q1, q2, q3, i1, i2, hjI, wrj]
          · have hvl := hanc 1 (by decide) (by decide)
            have hw1 : w1 = wb.drew := by
              match vs, hSt, hvl with
              | [], h, _ => exact h
              | [v], h, _ => exact h.2
            subst hw1
            have q1 : wb.drew.cell? ⟨PL, 11, none⟩ = some (.slice (some ⟨OU, 0, none⟩) n n) := cPL11
            have q2 : wb.drew.cell? ⟨PL, 5, none⟩ = some (.slice (some ⟨C, 0, none⟩) (n + 1) (n + 1)) := cPL5
            have q3 : wb.drew.cell? ⟨C, q, none⟩ = some (.int .i64 cq) := cC
            have d9 : U[363]?.getD undef = .pointer (some ⟨PL, 4, none⟩) := slot_of (chain_of (hdep ⟨9, .data⟩ (by simp) rfl (by decide)) rfl) rfl
            refine step_of_run (v := .pointer (some ⟨PL, 5, none⟩)) (w' := _) ?_ ⟨rfl, _, rfl, (fun h => by cases h), rfl⟩
            simp [execOp, go_sem, d9, q1, q2, q3, i1, i2, hjI, wrj]
          · have hvl := hanc 1 (by decide) (by decide)
            have hw1 : w1 = wb.drew := by
              match vs, hSt, hvl with
              | [], h, _ => exact h
              | [v], h, _ => exact h.2
            subst hw1
            have q1 : wb.drew.cell? ⟨PL, 11, none⟩ = some (.slice (some ⟨OU, 0, none⟩) n n) := cPL11
            have q2 : wb.drew.cell? ⟨PL, 5, none⟩ = some (.slice (some ⟨C, 0, none⟩) (n + 1) (n + 1)) := cPL5
            have q3 : wb.drew.cell? ⟨C, q, none⟩ = some (.int .i64 cq) := cC
            have d10 : U[364]?.getD undef = .pointer (some ⟨PL, 5, none⟩) := slot_of (chain_of (hdep ⟨10, .data⟩ (by simp) rfl (by decide)) rfl) rfl
            refine step_of_run (v := .slice (some ⟨C, 0, none⟩) (n + 1) (n + 1)) (w' := _) ?_ ⟨rfl, _, rfl, (fun h => by cases h), rfl⟩
            simp [execOp, go_sem, d10, q1, q2, q3, i1, i2, hjI, wrj]
          · have hvl := hanc 1 (by decide) (by decide)
            have hw1 : w1 = wb.drew := by
              match vs, hSt, hvl with
              | [], h, _ => exact h
              | [v], h, _ => exact h.2
            subst hw1
            have q1 : wb.drew.cell? ⟨PL, 11, none⟩ = some (.slice (some ⟨OU, 0, none⟩) n n) := cPL11
            have q2 : wb.drew.cell? ⟨PL, 5, none⟩ = some (.slice (some ⟨C, 0, none⟩) (n + 1) (n + 1)) := cPL5
            have q3 : wb.drew.cell? ⟨C, q, none⟩ = some (.int .i64 cq) := cC
            have hx54 : U[54]?.getD undef = .int .i64 q := kept_of hK 54 (by decide) (by assumption)
            refine step_of_run (v := .int .i64 q) (w' := _) ?_ ⟨rfl, _, rfl, (fun h => by cases h), rfl⟩
            simp [execOp, go_sem, hx54, q1, q2, q3, i1, i2, hjI, wrj]
          · have hvl := hanc 1 (by decide) (by decide)
            have hw1 : w1 = wb.drew := by
              match vs, hSt, hvl with
              | [], h, _ => exact h
              | [v], h, _ => exact h.2
            subst hw1
            have q1 : wb.drew.cell? ⟨PL, 11, none⟩ = some (.slice (some ⟨OU, 0, none⟩) n n) := cPL11
            have q2 : wb.drew.cell? ⟨PL, 5, none⟩ = some (.slice (some ⟨C, 0, none⟩) (n + 1) (n + 1)) := cPL5
            have q3 : wb.drew.cell? ⟨C, q, none⟩ = some (.int .i64 cq) := cC
            have d11 : U[365]?.getD undef = .slice (some ⟨C, 0, none⟩) (n + 1) (n + 1) := slot_of (chain_of (hdep ⟨11, .data⟩ (by simp) rfl (by decide)) rfl) rfl
            have d12 : U[366]?.getD undef = .int .i64 q := slot_of (chain_of (hdep ⟨12, .data⟩ (by simp) rfl (by decide)) rfl) rfl
            refine step_of_run (v := .pointer (some ⟨C, q, none⟩)) (w' := _) ?_ ⟨rfl, _, rfl, (fun h => by cases h), rfl⟩
            simp [execOp, go_sem, d11, d12, q1, q2, q3, i1, i2, hjI, wrj]
          · have hvl := hanc 1 (by decide) (by decide)
            have hw1 : w1 = wb.drew := by
              match vs, hSt, hvl with
              | [], h, _ => exact h
              | [v], h, _ => exact h.2
            subst hw1
            have q1 : wb.drew.cell? ⟨PL, 11, none⟩ = some (.slice (some ⟨OU, 0, none⟩) n n) := cPL11
            have q2 : wb.drew.cell? ⟨PL, 5, none⟩ = some (.slice (some ⟨C, 0, none⟩) (n + 1) (n + 1)) := cPL5
            have q3 : wb.drew.cell? ⟨C, q, none⟩ = some (.int .i64 cq) := cC
            have d13 : U[367]?.getD undef = .pointer (some ⟨C, q, none⟩) := slot_of (chain_of (hdep ⟨13, .data⟩ (by simp) rfl (by decide)) rfl) rfl
            refine step_of_run (v := .int .i64 cq) (w' := _) ?_ ⟨rfl, _, rfl, (fun h => by cases h), rfl⟩
            simp [execOp, go_sem, d13, q1, q2, q3, i1, i2, hjI, wrj]
          · have hvl := hanc 1 (by decide) (by decide)
            have hw1 : w1 = wb.drew := by
              match vs, hSt, hvl with
              | [], h, _ => exact h
              | [v], h, _ => exact h.2
            subst hw1
            have q1 : wb.drew.cell? ⟨PL, 11, none⟩ = some (.slice (some ⟨OU, 0, none⟩) n n) := cPL11
            have q2 : wb.drew.cell? ⟨PL, 5, none⟩ = some (.slice (some ⟨C, 0, none⟩) (n + 1) (n + 1)) := cPL5
            have q3 : wb.drew.cell? ⟨C, q, none⟩ = some (.int .i64 cq) := cC
            have d6 : U[360]?.getD undef = .int .i64 q := slot_of (chain_of (hdep ⟨6, .data⟩ (by simp) rfl (by decide)) rfl) rfl
            have d14 : U[368]?.getD undef = .int .i64 cq := slot_of (chain_of (hdep ⟨14, .data⟩ (by simp) rfl (by decide)) rfl) rfl
            refine step_of_run (v := .agg #[.int .i64 q, .bool false, .int .i64 0, .int .i64 0, .int .i64 cq]) (w' := _) ?_ ⟨rfl, _, rfl, (fun h => by cases h), rfl⟩
            simp [execOp, go_sem, d6, d14, q1, q2, q3, i1, i2, hjI, wrj]
          · exact absurd (by decide) hia
          · exact absurd (by decide) hia
        · intro j hj hi U vs w1 hlen hU hK hSt hdep hprev
          have hj' : j < 2 := hj
          rcases (by omega : j = 0 ∨ j = 1) with rfl | rfl
          · obtain rfl : vs = [] := List.eq_nil_of_length_eq_zero hlen
            have d3 : U[357]?.getD undef = .slice (some ⟨OU, 0, none⟩) n n := slot_of (chain_of (hdep ⟨3, .data⟩ (by simp) rfl (by decide)) rfl) rfl
            have d5 : U[359]?.getD undef = .int .i64 j := slot_of (chain_of (hdep ⟨5, .data⟩ (by simp) rfl (by decide)) rfl) rfl
            have hw1 : w1 = wb.drew := hSt
            subst hw1
            refine step_of_run (v := .pointer (some ⟨OU, j * 5, none⟩)) (w' := wb.drew) ?_ ⟨_, rfl, (fun h => by cases h), rfl, rfl⟩
            simp [execOp, go_sem, j1, j2, d3, d5]
          · obtain ⟨v0, rfl⟩ : ∃ v0, vs = [v0] := by
              match vs, hlen with | [v0], _ => exact ⟨v0, rfl⟩
            have p0 : U[370]?.getD undef = v0 := slot_of (hprev 0 (by decide)) rfl
            have d15 : U[369]?.getD undef = .agg #[.int .i64 q, .bool false, .int .i64 0, .int .i64 0, .int .i64 cq] := slot_of (chain_of (hdep ⟨15, .data⟩ (by simp) rfl (by decide)) rfl) rfl
            obtain ⟨rfl, rfl⟩ := hSt
            have r0 : Row wb OU 71 (n * 5) (outJ cr j) := HOU.out
            have c0 : (wb).cell? ⟨OU, j * 5, none⟩ = some _ := r0.cell (j * 5) (by omega)
            have g0 : (wb).frozen? ⟨OU, j * 5, none⟩ = false := r0.frozen _
            have r1 := r0.set (j * 5) (.int .i64 q)
            have c1 : ((wb.setCell ⟨OU, j * 5, none⟩ (.int .i64 q))).cell? ⟨OU, j * 5 + 1, none⟩ = some _ := r1.cell (j * 5 + 1) (by omega)
            have g1 : ((wb.setCell ⟨OU, j * 5, none⟩ (.int .i64 q))).frozen? ⟨OU, j * 5 + 1, none⟩ = false := r1.frozen _
            have r2 := r1.set (j * 5 + 1) (.bool false)
            have c2 : (((wb.setCell ⟨OU, j * 5, none⟩ (.int .i64 q)).setCell ⟨OU, j * 5 + 1, none⟩ (.bool false))).cell? ⟨OU, j * 5 + 2, none⟩ = some _ := r2.cell (j * 5 + 2) (by omega)
            have g2 : (((wb.setCell ⟨OU, j * 5, none⟩ (.int .i64 q)).setCell ⟨OU, j * 5 + 1, none⟩ (.bool false))).frozen? ⟨OU, j * 5 + 2, none⟩ = false := r2.frozen _
            have r3 := r2.set (j * 5 + 2) (.int .i64 0)
            have c3 : ((((wb.setCell ⟨OU, j * 5, none⟩ (.int .i64 q)).setCell ⟨OU, j * 5 + 1, none⟩ (.bool false)).setCell ⟨OU, j * 5 + 2, none⟩ (.int .i64 0))).cell? ⟨OU, j * 5 + 3, none⟩ = some _ := r3.cell (j * 5 + 3) (by omega)
            have g3 : ((((wb.setCell ⟨OU, j * 5, none⟩ (.int .i64 q)).setCell ⟨OU, j * 5 + 1, none⟩ (.bool false)).setCell ⟨OU, j * 5 + 2, none⟩ (.int .i64 0))).frozen? ⟨OU, j * 5 + 3, none⟩ = false := r3.frozen _
            have r4 := r3.set (j * 5 + 3) (.int .i64 0)
            have c4 : (((((wb.setCell ⟨OU, j * 5, none⟩ (.int .i64 q)).setCell ⟨OU, j * 5 + 1, none⟩ (.bool false)).setCell ⟨OU, j * 5 + 2, none⟩ (.int .i64 0)).setCell ⟨OU, j * 5 + 3, none⟩ (.int .i64 0))).cell? ⟨OU, j * 5 + 4, none⟩ = some _ := r4.cell (j * 5 + 4) (by omega)
            have g4 : (((((wb.setCell ⟨OU, j * 5, none⟩ (.int .i64 q)).setCell ⟨OU, j * 5 + 1, none⟩ (.bool false)).setCell ⟨OU, j * 5 + 2, none⟩ (.int .i64 0)).setCell ⟨OU, j * 5 + 3, none⟩ (.int .i64 0))).frozen? ⟨OU, j * 5 + 4, none⟩ = false := r4.frozen _
            have r5 := r4.set (j * 5 + 4) (.int .i64 cq)
            refine step_of_skip (w' := wb.drew.setCells OU (j * 5) [.int .i64 q, .bool false, .int .i64 0, .int .i64 0, .int .i64 cq]) ?_ ⟨undef, rfl, (fun _ => rfl), ?_⟩
            · simp [execOp, go_sem, d15, p0, c0, c1, c2, c3, c4, g0, g1, g2, g3, g4, World.setCells]
            · refine ⟨?_, Only.setCells (S := fun b => b = OU) rfl _ _ Only.refl.drew, ?_⟩
              · refine (Row.setCells _ _ r0.drew).ext (fun x hx => ?_)
                exact outJ_step cr j q cq x HJQ.out HCQ.out
              · simp [World.setCells]
        · intro V vs w3 hV hKV hlen3 hSt hval hall
          obtain ⟨hr3, ho3, hs3⟩ : Row w3 OU 71 (n * 5) (outJ cr q) ∧ Only (fun b => b = OU) wb w3 ∧ w3.heap.size = wb.heap.size := by
            match vs, hlen3, hSt with
            | [_, _], _, h => exact h
          have hMd : MadeQ n A L PR OU SE PS cr dc (q + 1) (q + 1) q (q + 1) w w3 := HMC.out.out hr3 ho3 hs3
          have dPL12 : w3.cell? ⟨PL, 12, none⟩ = some (.slice (some ⟨SE, 0, none⟩) (n + 1) (n + 1)) := ((HPLb.out.only ho3 hPLne).cell 12 (by omega)).trans (congrArg some hmP.out.2.2.2)
          have hKd := Keeps.trans HK.out (Kept.keeps (lo := 81) (hi := 734) (vs := [54]) hKV (hV.trans hT.symm) (by decide))
          have s54' : V[54]?.getD undef = .int .i64 q := kept_of hKV 54 (by decide) s54
          have HKd := hidP hKd
          have HMD := hidP hMd
          clear hKV hlen3 hSt hval hall hr3 ho3 hs3 hKd hMd s51 s53 s54 HK hT cPL11 cPL5 cPL12 cC HPLb hPLlt HOU hjI wrj j1 j2 HJQ
          clear j
          clear T2
          obtain ⟨T2, hTe⟩ : ∃ T2, T2 = V := ⟨_, rfl⟩
          subst hTe
          have hT := hV
          clear hV
          have HK := HKd
          clear HKd
          have u54 := s54'
          clear s54'
          have hK := HK.out
          clear HK
          have a23 := hK.at' hT 23 (by decide) t23 (by decide) (by decide)
          have a27 := hK.at' hT 27 (by decide) t27 (by decide) (by decide)
          have a51 := hK.at' hT 51 (by decide) t51 (by decide) (by decide)
          have a52 := hK.at' hT 52 (by decide) t52 (by decide) (by decide)
          have a53 := hK.at' hT 53 (by decide) t53 (by decide) (by decide)
          have a54 : T2[54]'(by omega) = _ := at_of _ u54
          have HK := hidP hK
          clear hK u54
          have cSE : w3.cell? ⟨SE, q, none⟩ = some .nilIface := (HMD.out.m3.cell q (by omega)).trans (by unfold sentJ; rw [if_neg (by omega)])
          have fSE : w3.frozen? ⟨SE, q, none⟩ = false := HMD.out.m3.frozen _
          have wr1 : IntKind.i64.wrap ((q : Int) * 100) = (q : Int) * 100 := by rw [IntKind.wrap_i64]; omega
          have wr2 : IntKind.i64.wrap ((q : Int) * 100 + 1) = (q : Int) * 100 + 1 := by rw [IntKind.wrap_i64]; omega
          have wr3 : IntKind.i64.wrap ((q : Int) + 1) = (q : Int) + 1 := by rw [IntKind.wrap_i64]; omega
          have hMe := hidP (HMD.out.sent hq1)
          go_wp2_with fail
          first | refine ⟨trivial, k - 1, by omega, ?_⟩ | refine ⟨k - 1, by omega, ?_⟩
          rw [HI.out]
          refine ⟨q + 1, by omega, by omega, ?_, by simp [hT], hMe.out⟩
          repeat (refine Keeps.put ?_ _ _ (by first | exact .inr ⟨by decide, by decide⟩ | exact .inl (by decide)))
          exact HK.out
    · have hqn : ¬ q ≤ n := of_decide_eq_false h
      obtain rfl : q = n + 1 := by omega
      go_wp2_with fail
      first | refine HQ.out _ _ ?_ HMR.out | refine ⟨trivial, HQ.out _ _ ?_ HMR.out⟩
      repeat (refine Keeps.put ?_ _ _ (by first | exact .inr ⟨by decide, by decide⟩ | exact .inl (by decide)))
      exact HK.out
  · rw [HI.out]
    exact ⟨1, by omega, by omega, Keeps.refl, t54, HM.out⟩
end Go.Proofs.Ybulkcawy
