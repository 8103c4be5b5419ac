/-
  LawS3859APlay: the player is made.
-/
import Derived.Test.YbulkcawyF3M
namespace Go.Proofs.Ybulkcawy
open Go.RowKit
set_option linter.unusedSimpArgs false
set_option linter.unusedVariables false
set_option maxRecDepth 100000
set_option maxHeartbeats 1000000

def findR (id : Nat) : Code → Option Code
  | .seq a b => match findR id a with
    | some c => some c
    | none => findR id b
  | .cond _ a b => match findR id a with
    | some c => some c
    | none => findR id b
  | .loop c => findR id c
  | .block _ c => findR id c
  | .region i ops d => if i = id then some (.region i ops d) else none
  | _ => none
/-- The region of that number in the body of f. -/
def regOf (f : Go.Func) (id : Nat) : Code := ((f.body).bind (findR id)).getD .skip

def plN (n last g1 g2 g3 g4 PR OU SE IN : Nat) (k : Nat) : Value := ([.nilIface, .int .i64 n, .int .i64 n, .int .i64 0, .int .i64 last, .slice (some ⟨g1, 0, none⟩) (n + 1) (n + 1), .slice (some ⟨g2, 0, none⟩) (n + 1) (n + 1), .slice (some ⟨g3, 0, none⟩) (n + 1) (n + 1), .slice none 0 0, .slice (some ⟨g4, 0, none⟩) (n + 1) (n + 1), .slice (some ⟨PR, 0, none⟩) (n + 1) (n + 1), .slice (some ⟨OU, 0, none⟩) n n, .slice (some ⟨SE, 0, none⟩) (n + 1) (n + 1), .slice (some ⟨IN, 0, none⟩) n n, .slice none 0 0, .slice none 0 0, .slice none 0 0, .nilFunc, .nilFunc] : List Value).getD k undef
/-- The player's parts. -/
structure Parts (lo n g1 g2 g3 g4 PR OU SE IN : Nat) (w : World) : Prop where
  l1 : lo ≤ g1
  l2 : lo ≤ g2
  l3 : lo ≤ g3
  l4 : lo ≤ g4
  l5 : lo ≤ PR
  l6 : lo ≤ OU
  l7 : lo ≤ SE
  l8 : lo ≤ IN
  r1 : Row w g1 3 (n + 1) (fun _ => .int .i64 0)
  r2 : Row w g2 92 (n + 1) (fun _ => .slice none 0 0)
  r3 : Row w g3 92 (n + 1) (fun _ => .slice none 0 0)
  r4 : Row w g4 3 (n + 1) (fun _ => .int .i64 0)
  r5 : Row w PR 69 (n + 1) (fun _ => .nilIface)
  r6 : Row w OU 71 (n * 5) outZ
  r7 : Row w SE 20 (n + 1) (fun _ => .nilIface)
  r8 : Row w IN 20 n (fun _ => .nilIface)
  d1 : g1 ≠ g4
  d2 : g2 ≠ g3
  d3 : SE ≠ IN
theorem Parts.only {lo n g1 g2 g3 g4 PR OU SE IN : Nat} {w w' : World} (h : Parts lo n g1 g2 g3 g4 PR OU SE IN w) (ho : Only (fun _ => False) w w') : Parts lo n g1 g2 g3 g4 PR OU SE IN w' :=
  ⟨h.l1, h.l2, h.l3, h.l4, h.l5, h.l6, h.l7, h.l8, h.r1.only ho (fun h => h), h.r2.only ho (fun h => h), h.r3.only ho (fun h => h), h.r4.only ho (fun h => h), h.r5.only ho (fun h => h), h.r6.only ho (fun h => h), h.r7.only ho (fun h => h), h.r8.only ho (fun h => h), h.d1, h.d2, h.d3⟩
def MadeP (lo n last : Nat) (v : Value) (w : World) : Prop := ∃ PL g1 g2 g3 g4 PR OU SE IN : Nat, v = .pointer (some ⟨PL, 0, none⟩) ∧ lo ≤ PL ∧ Row w PL 59 19 (plN n last g1 g2 g3 g4 PR OU SE IN) ∧ Parts lo n g1 g2 g3 g4 PR OU SE IN w

theorem info69 : (Yba.prog.info? 69).map (fun i => (i.zero, i.size, i.bytes)) = some (some .nilIface, 1, 16) := by kernel_rfl
theorem info20' : (Yba.prog.info? 20).map (fun i => (i.zero, i.size, i.bytes)) = some (some .nilIface, 1, 16) := by kernel_rfl
theorem info71' : (Yba.prog.info? 71).map (fun i => (i.zero, i.size, i.bytes)) = some (some (.agg #[.int .i64 0, .bool false, .int .i64 0, .int .i64 0, .int .i64 0]), 5, 40) := by kernel_rfl
theorem makeProcs (n : Nat) (hn : n ≤ 100000) (w : World) : (Instr.makeSlice 49 (.int .i64 (n : Int)) (.int .i64 (n : Int))).run Yba.prog w = .ok (.slice (some ⟨w.heap.size, 0, none⟩) n n) (w.alloc (.cells (madeCells #[.nilIface] n) 69)) :=
  run_make_row' (P := Yba.prog) 49 69 .nilIface 16 (by kernel_rfl) info69 rfl .i64 .i64 n (by omega) (by omega) w
theorem makeAnys (n : Nat) (hn : n ≤ 100000) (w : World) : (Instr.makeSlice 51 (.int .i64 (n : Int)) (.int .i64 (n : Int))).run Yba.prog w = .ok (.slice (some ⟨w.heap.size, 0, none⟩) n n) (w.alloc (.cells (madeCells #[.nilIface] n) 20)) :=
  run_make_row' (P := Yba.prog) 51 20 .nilIface 16 (by kernel_rfl) info20' rfl .i64 .i64 n (by omega) (by omega) w
theorem makeOuts (n : Nat) (hn : n ≤ 100000) (w : World) : (Instr.makeSlice 50 (.int .i64 (n : Int)) (.int .i64 (n : Int))).run Yba.prog w = .ok (.slice (some ⟨w.heap.size, 0, none⟩) n n) (w.alloc (.cells (madeCells #[.int .i64 0, .bool false, .int .i64 0, .int .i64 0, .int .i64 0] (n * 5)) 71)) := by
  obtain ⟨i, hi, h1, h2, h3⟩ := info_parts info71'
  have := run_make (P := Yba.prog) w 50 71 i _ (by kernel_rfl) hi h1 .i64 .i64 n n (by omega) (Int.le_refl _) (by rw [h3]; omega) (by omega)
  rw [h2] at this
  exact this
theorem Row.outZ (w : World) (n : Nat) : Row (w.alloc (.cells (madeCells #[.int .i64 0, .bool false, .int .i64 0, .int .i64 0, .int .i64 0] (n * 5)) 71)) w.heap.size 71 (n * 5) outZ := by
  refine ⟨_, heap_alloc_new _ _, by simp [madeCells], fun q hq => ?_⟩
  have h5 := Nat.mod_lt q (show 0 < 5 by omega)
  simp only [madeCells, Array.getElem?_map, Array.getElem?_range, hq, if_true, Option.map_some]
  unfold Ybulkcawy.outZ
  rcases (by omega : q % 5 = 0 ∨ q % 5 = 1 ∨ q % 5 = 2 ∨ q % 5 = 3 ∨ q % 5 = 4) with h | h | h | h | h <;> simp [h]

def psiP (i j : Nat) (v x : Value) : Prop := (i = 11 ∧ j = 13 ∨ i = 13 ∧ j = 11) → ∀ g, newB v = some g → newB x ≠ some g
def phiP (n last lo : Nat) : Nat → Value → World → Prop
  | 0, v, _ | 1, v, _ => v = .agg #[.int .i64 n, .int .i64 n, .int .i64 0]
  | 2, v, _ => v = .int .i64 last
  | 3, v, w => ∃ g1 g2 g3 g4 : Nat, v = .agg #[.int .i64 last, .slice (some ⟨g1, 0, none⟩) (n + 1) (n + 1), .slice (some ⟨g2, 0, none⟩) (n + 1) (n + 1), .slice (some ⟨g3, 0, none⟩) (n + 1) (n + 1), .slice none 0 0, .slice (some ⟨g4, 0, none⟩) (n + 1) (n + 1)] ∧ lo ≤ g1 ∧ lo ≤ g2 ∧ lo ≤ g3 ∧ lo ≤ g4 ∧ Row w g1 3 (n + 1) (fun _ => .int .i64 0) ∧ Row w g2 92 (n + 1) (fun _ => .slice none 0 0) ∧ Row w g3 92 (n + 1) (fun _ => .slice none 0 0) ∧ Row w g4 3 (n + 1) (fun _ => .int .i64 0) ∧ g1 ≠ g4 ∧ g2 ≠ g3
  | 4, v, _ | 7, v, _ | 9, v, _ | 12, v, _ => v = .int .i64 n
  | 5, v, _ | 10, v, _ => v = .int .i64 ((n : Int) + 1)
  | 6, v, w => ∃ g, v = .slice (some ⟨g, 0, none⟩) (n + 1) (n + 1) ∧ lo ≤ g ∧ Row w g 69 (n + 1) (fun _ => .nilIface)
  | 8, v, w => ∃ g, v = .slice (some ⟨g, 0, none⟩) n n ∧ lo ≤ g ∧ Row w g 71 (n * 5) outZ
  | 11, v, w => ∃ g, v = .slice (some ⟨g, 0, none⟩) (n + 1) (n + 1) ∧ lo ≤ g ∧ Row w g 20 (n + 1) (fun _ => .nilIface)
  | 13, v, w => ∃ g, v = .slice (some ⟨g, 0, none⟩) n n ∧ lo ≤ g ∧ Row w g 20 n (fun _ => .nilIface)
  | 14, v, w => ∃ g1 g2 g3 g4 PR OU SE IN : Nat, v = .agg #[.nilIface, .int .i64 n, .int .i64 n, .int .i64 0, .int .i64 last, .slice (some ⟨g1, 0, none⟩) (n + 1) (n + 1), .slice (some ⟨g2, 0, none⟩) (n + 1) (n + 1), .slice (some ⟨g3, 0, none⟩) (n + 1) (n + 1), .slice none 0 0, .slice (some ⟨g4, 0, none⟩) (n + 1) (n + 1), .slice (some ⟨PR, 0, none⟩) (n + 1) (n + 1), .slice (some ⟨OU, 0, none⟩) n n, .slice (some ⟨SE, 0, none⟩) (n + 1) (n + 1), .slice (some ⟨IN, 0, none⟩) n n, .slice none 0 0, .slice none 0 0, .slice none 0 0, .nilFunc, .nilFunc] ∧ Parts lo n g1 g2 g3 g4 PR OU SE IN w
  | 15, v, w | 16, v, w => MadeP lo n last v w
  | _, _, _ => False
theorem psi_new (n last lo : Nat) (w1 : World) (x : Value) (j i m : Nat) (hx : phiP n last lo j x w1) : psiP i j (.slice (some ⟨w1.heap.size, 0, none⟩) m m) x ∧ psiP j i x (.slice (some ⟨w1.heap.size, 0, none⟩) m m) := by
  have key : (j = 11 ∨ j = 13) → newB x ≠ some w1.heap.size := by
    rintro (rfl | rfl)
    all_goals
      obtain ⟨g, rfl, _, hr⟩ := hx
      have := hr.lt
      simp [newB]
      omega
  refine ⟨fun h g hg e => ?_, fun h g hg e => ?_⟩
  · simp [newB] at hg; subst hg; exact key (by omega) e
  · simp [newB] at e; subst e; exact key (by omega) hg
theorem phiP_mono (n last lo i k : Nat) (v : Value) (w w' : World) (hki : k ≠ i) (h : phiP n last lo k v w) (ho : Only (fun _ => False) w w') : phiP n last lo k v w' := by
  unfold phiP at h ⊢
  split at h
  all_goals first
    | exact h
    | (obtain ⟨g, h1, h2, h3⟩ := h; exact ⟨g, h1, h2, h3.only ho (fun h => h)⟩)
    | (obtain ⟨g1, g2, g3, g4, h0, h1, h2, h3, h4, r1, r2, r3, r4, h5⟩ := h; exact ⟨g1, g2, g3, g4, h0, h1, h2, h3, h4, r1.only ho (fun h => h), r2.only ho (fun h => h), r3.only ho (fun h => h), r4.only ho (fun h => h), h5⟩)
    | (obtain ⟨g1, g2, g3, g4, PR, OU, SE, IN, h0, h1⟩ := h; exact ⟨g1, g2, g3, g4, PR, OU, SE, IN, h0, h1.only ho⟩)
    | (obtain ⟨PL, g1, g2, g3, g4, PR, OU, SE, IN, h0, h1, h2, h3⟩ := h; exact ⟨PL, g1, g2, g3, g4, PR, OU, SE, IN, h0, h1, h2.only ho (fun h => h), h3.only ho⟩)
    | exact h.elim

theorem f3_r72 (n last A : Nat) (hn1 : 1 ≤ n) (hn : n ≤ 6) (hl : last ≤ 5) (w : World) (hA : Row w A 43 3 (fun k => if k = 2 then .int .i64 0 else .int .i64 n)) (T : Array Value) (Q : Exit → Act → World → Prop) (hT : T.size = 735) (t23 : T[23]?.getD undef = .int .i64 n) (t24 : T[24]?.getD undef = .int .i64 last) (t50 : T[50]?.getD undef = .pointer (some ⟨A, 0, none⟩))
    (hQ : ∀ T' w' v, Keeps 81 734 [51] T T' → T'[51]?.getD undef = v → MadeP w.heap.size n last v w' → Only (fun _ => False) w w' → Q .normal ⟨T', []⟩ w') : (regOf Yba.f3 72).wp Yba.prog Q ⟨T, []⟩ w := by
  conv in (regOf Yba.f3 72) => whnf
  have HQ := hidP hQ
  have mkP := fun w => makeProcs (n + 1) (by omega) w
  have mkA := fun w => makeAnys (n + 1) (by omega) w
  have mkA' := fun w => makeAnys n (by omega) w
  have mkO := fun w => makeOuts n (by omega) w
  simp only [Int.natCast_add, Int.natCast_one] at mkP mkA
  have wrn : IntKind.i64.wrap ((n : Int) + 1) = (n : Int) + 1 := by rw [IntKind.wrap_i64]; omega
  have HMP := hidP mkP
  have HMA := hidP mkA
  have HMA' := hidP mkA'
  have HMO := hidP mkO
  clear hQ mkP mkA mkA' mkO
  obtain ⟨lo, hlo⟩ : ∃ lo, lo = w.heap.size := ⟨_, rfl⟩
  have HLO := hidP hlo
  refine region_pairs (by kernel_rfl) T 735 hT (phiP n last lo) psiP (fun l u w1 => Only (fun _ => False) w w1 ∧ Row w1 A 43 3 (fun k => if k = 2 then .int .i64 0 else .int .i64 n)) (fun _ w w' => Only (fun _ => False) w w') (by decide) (by decide) (by decide) (by decide) (phiP_mono n last lo) ?_ ?_ ⟨Only.refl.drew, hA.drew⟩
  · intro i hi l U w1 hli hcl hJ hU hK hdep hpair
    have jk : ∀ w', Only (fun _ => False) w1 w' → Only (fun _ => False) w w' ∧ Row w' A 43 3 (fun k => if k = 2 then .int .i64 0 else .int .i64 n) := fun w' ho => ⟨hJ.1.trans ho, hJ.2.only ho (fun h => h)⟩
    have hsz : lo ≤ w1.heap.size := by rw [hlo]; exact hJ.1.size
    have hi' : i < 17 := hi
    have cA0 : w1.cell? ⟨A, 0, none⟩ = some (.int .i64 n) := hJ.2.cell 0 (by omega)
    have cA1 : w1.cell? ⟨A, 1, none⟩ = some (.int .i64 n) := hJ.2.cell 1 (by omega)
    have cA2 : w1.cell? ⟨A, 2, none⟩ = some (.int .i64 0) := hJ.2.cell 2 (by omega)
    rcases (by omega : i = 0 ∨ i = 1 ∨ i = 2 ∨ i = 3 ∨ i = 4 ∨ i = 5 ∨ i = 6 ∨ i = 7 ∨ i = 8 ∨ i = 9 ∨ i = 10 ∨ i = 11 ∨ i = 12 ∨ i = 13 ∨ i = 14 ∨ i = 15 ∨ i = 16) with rfl | rfl | rfl | rfl | rfl | rfl | rfl | rfl | rfl | rfl | rfl | rfl | rfl | rfl | rfl | rfl | rfl
    · have hx50 : U[50]?.getD undef = .pointer (some ⟨A, 0, none⟩) := kept_of hK 50 (by decide) t50
      refine step_of_run (v := .agg #[.int .i64 n, .int .i64 n, .int .i64 0]) (w' := w1) ?_ ⟨_, rfl, (fun h => by cases h), rfl, Only.refl, jk _ Only.refl, fun j x hji hx => ⟨fun h => by omega, fun h => by omega⟩⟩
      simp [execOp, go_sem, hx50, cA0, cA1, cA2]
    · have hx50 : U[50]?.getD undef = .pointer (some ⟨A, 0, none⟩) := kept_of hK 50 (by decide) t50
      refine step_of_run (v := .agg #[.int .i64 n, .int .i64 n, .int .i64 0]) (w' := w1) ?_ ⟨_, rfl, (fun h => by cases h), rfl, Only.refl, jk _ Only.refl, fun j x hji hx => ⟨fun h => by omega, fun h => by omega⟩⟩
      simp [execOp, go_sem, hx50, cA0, cA1, cA2]
    · have hx24 : U[24]?.getD undef = .int .i64 last := kept_of hK 24 (by decide) t24
      refine step_of_run (v := .int .i64 last) (w' := w1) ?_ ⟨_, rfl, (fun h => by cases h), rfl, Only.refl, jk _ Only.refl, fun j x hji hx => ⟨fun h => by omega, fun h => by omega⟩⟩
      simp [execOp, go_sem, hx24]
    · have d1 : U[306]?.getD undef = .agg #[.int .i64 n, .int .i64 n, .int .i64 0] := slot_of (hdep ⟨1, .data⟩ (by simp) rfl : phiP n last lo 1 (slotv _ U 1) w1) rfl
      have d2 : U[307]?.getD undef = .int .i64 last := slot_of (hdep ⟨2, .data⟩ (by simp) rfl : phiP n last lo 2 (slotv _ U 2) w1) rfl
      refine step_of_call (f := 10) (args := #[.agg #[.int .i64 n, .int .i64 n, .int .i64 0], .slice none 0 0, .int .i64 last]) (w' := w1) ?_ ((newPattern n last hn1 hn hl w1).mono ?_)
      · simp [execOp, go_sem, d1, d2]
      · rintro e w9 ⟨v, rfl, g1, g2, g3, g4, e1, e2, e3, e4, e5, e6, e7, e8, e9, e10, e11, e12⟩
        exact ⟨v, rfl, v, rfl, (fun h => by cases h), ⟨g1, g2, g3, g4, e1, by omega, by omega, by omega, by omega, e6, e7, e8, e9, e10, e11⟩, e12, jk _ e12, fun j x hji hx => ⟨fun h => by omega, fun h => by omega⟩⟩
    · have hx23 : U[23]?.getD undef = .int .i64 n := kept_of hK 23 (by decide) t23
      refine step_of_run (v := .int .i64 n) (w' := w1) ?_ ⟨_, rfl, (fun h => by cases h), rfl, Only.refl, jk _ Only.refl, fun j x hji hx => ⟨fun h => by omega, fun h => by omega⟩⟩
      simp [execOp, go_sem, hx23]
    · have d4 : U[309]?.getD undef = .int .i64 n := slot_of (hdep ⟨4, .data⟩ (by simp) rfl : phiP n last lo 4 (slotv _ U 4) w1) rfl
      refine step_of_run (v := .int .i64 ((n : Int) + 1)) (w' := w1) ?_ ⟨_, rfl, (fun h => by cases h), rfl, Only.refl, jk _ Only.refl, fun j x hji hx => ⟨fun h => by omega, fun h => by omega⟩⟩
      simp [execOp, go_sem, d4, wrn]
    · have mkP := HMP.out
      have d5 : U[310]?.getD undef = .int .i64 ((n : Int) + 1) := slot_of (hdep ⟨5, .data⟩ (by simp) rfl : phiP n last lo 5 (slotv _ U 5) w1) rfl
      refine step_of_run (v := .slice (some ⟨w1.heap.size, 0, none⟩) (n + 1) (n + 1)) (w' := w1.alloc (.cells (madeCells #[.nilIface] (n + 1)) 69)) ?_ ⟨_, rfl, (fun h => by cases h), ⟨_, rfl, hsz, Row.made _ _ _ _⟩, Only.refl.alloc _, jk _ (Only.refl.alloc _), fun j x hji hx => ⟨fun h => by omega, fun h => by omega⟩⟩
      simp [execOp, go_sem, d5, mkP]
    · have hx23 : U[23]?.getD undef = .int .i64 n := kept_of hK 23 (by decide) t23
      refine step_of_run (v := .int .i64 n) (w' := w1) ?_ ⟨_, rfl, (fun h => by cases h), rfl, Only.refl, jk _ Only.refl, fun j x hji hx => ⟨fun h => by omega, fun h => by omega⟩⟩
      simp [execOp, go_sem, hx23]
    · have mkO := HMO.out
      have d7 : U[312]?.getD undef = .int .i64 n := slot_of (hdep ⟨7, .data⟩ (by simp) rfl : phiP n last lo 7 (slotv _ U 7) w1) rfl
      refine step_of_run (v := .slice (some ⟨w1.heap.size, 0, none⟩) n n) (w' := w1.alloc (.cells (madeCells #[.int .i64 0, .bool false, .int .i64 0, .int .i64 0, .int .i64 0] (n * 5)) 71)) ?_ ⟨_, rfl, (fun h => by cases h), ⟨_, rfl, hsz, Row.outZ _ _⟩, Only.refl.alloc _, jk _ (Only.refl.alloc _), fun j x hji hx => ⟨fun h => by omega, fun h => by omega⟩⟩
      simp [execOp, go_sem, d7, mkO]
    · have hx23 : U[23]?.getD undef = .int .i64 n := kept_of hK 23 (by decide) t23
      refine step_of_run (v := .int .i64 n) (w' := w1) ?_ ⟨_, rfl, (fun h => by cases h), rfl, Only.refl, jk _ Only.refl, fun j x hji hx => ⟨fun h => by omega, fun h => by omega⟩⟩
      simp [execOp, go_sem, hx23]
    · have d9 : U[314]?.getD undef = .int .i64 n := slot_of (hdep ⟨9, .data⟩ (by simp) rfl : phiP n last lo 9 (slotv _ U 9) w1) rfl
      refine step_of_run (v := .int .i64 ((n : Int) + 1)) (w' := w1) ?_ ⟨_, rfl, (fun h => by cases h), rfl, Only.refl, jk _ Only.refl, fun j x hji hx => ⟨fun h => by omega, fun h => by omega⟩⟩
      simp [execOp, go_sem, d9, wrn]
    · have mkA := HMA.out
      have d10 : U[315]?.getD undef = .int .i64 ((n : Int) + 1) := slot_of (hdep ⟨10, .data⟩ (by simp) rfl : phiP n last lo 10 (slotv _ U 10) w1) rfl
      refine step_of_run (v := .slice (some ⟨w1.heap.size, 0, none⟩) (n + 1) (n + 1)) (w' := w1.alloc (.cells (madeCells #[.nilIface] (n + 1)) 20)) ?_ ⟨_, rfl, (fun h => by cases h), ⟨_, rfl, hsz, Row.made _ _ _ _⟩, Only.refl.alloc _, jk _ (Only.refl.alloc _), fun j x hji hx => psi_new n last lo w1 x j _ _ hx⟩
      simp [execOp, go_sem, d10, mkA]
    · have hx23 : U[23]?.getD undef = .int .i64 n := kept_of hK 23 (by decide) t23
      refine step_of_run (v := .int .i64 n) (w' := w1) ?_ ⟨_, rfl, (fun h => by cases h), rfl, Only.refl, jk _ Only.refl, fun j x hji hx => ⟨fun h => by omega, fun h => by omega⟩⟩
      simp [execOp, go_sem, hx23]
    · have mkA := HMA'.out
      have d12 : U[317]?.getD undef = .int .i64 n := slot_of (hdep ⟨12, .data⟩ (by simp) rfl : phiP n last lo 12 (slotv _ U 12) w1) rfl
      refine step_of_run (v := .slice (some ⟨w1.heap.size, 0, none⟩) n n) (w' := w1.alloc (.cells (madeCells #[.nilIface] n) 20)) ?_ ⟨_, rfl, (fun h => by cases h), ⟨_, rfl, hsz, Row.made _ _ _ _⟩, Only.refl.alloc _, jk _ (Only.refl.alloc _), fun j x hji hx => psi_new n last lo w1 x j _ _ hx⟩
      simp [execOp, go_sem, d12, mkA]
    · have d0 : U[305]?.getD undef = .agg #[.int .i64 n, .int .i64 n, .int .i64 0] := slot_of (hdep ⟨0, .data⟩ (by simp) rfl : phiP n last lo 0 (slotv _ U 0) w1) rfl
      obtain ⟨g1, g2, g3, g4, f0, f1, f2, f3, f4, f5, f6, f7, f8, f9, f10⟩ := (hdep ⟨3, .data⟩ (by simp) rfl : phiP n last lo 3 (slotv _ U 3) w1)
      obtain ⟨PR, p0, p1, p2⟩ := (hdep ⟨6, .data⟩ (by simp) rfl : phiP n last lo 6 (slotv _ U 6) w1)
      obtain ⟨OU, o0, o1, o2⟩ := (hdep ⟨8, .data⟩ (by simp) rfl : phiP n last lo 8 (slotv _ U 8) w1)
      obtain ⟨SE, s0, s1, s2⟩ := (hdep ⟨11, .data⟩ (by simp) rfl : phiP n last lo 11 (slotv _ U 11) w1)
      obtain ⟨IN, i0, i1, i2⟩ := (hdep ⟨13, .data⟩ (by simp) rfl : phiP n last lo 13 (slotv _ U 13) w1)
      have hne : SE ≠ IN := fun e => (hpair ⟨11, .data⟩ (by simp) ⟨13, .data⟩ (by simp) rfl rfl (by decide) : psiP 11 13 (slotv _ U 11) (slotv _ U 13)) (.inl ⟨rfl, rfl⟩) SE (by rw [s0]; rfl) (by rw [i0, e]; rfl)
      have d3 : U[308]?.getD undef = .agg #[.int .i64 last, .slice (some ⟨g1, 0, none⟩) (n + 1) (n + 1), .slice (some ⟨g2, 0, none⟩) (n + 1) (n + 1), .slice (some ⟨g3, 0, none⟩) (n + 1) (n + 1), .slice none 0 0, .slice (some ⟨g4, 0, none⟩) (n + 1) (n + 1)] := slot_of f0 rfl
      have d6 : U[311]?.getD undef = .slice (some ⟨PR, 0, none⟩) (n + 1) (n + 1) := slot_of p0 rfl
      have d8 : U[313]?.getD undef = .slice (some ⟨OU, 0, none⟩) n n := slot_of o0 rfl
      have d11 : U[316]?.getD undef = .slice (some ⟨SE, 0, none⟩) (n + 1) (n + 1) := slot_of s0 rfl
      have d13 : U[318]?.getD undef = .slice (some ⟨IN, 0, none⟩) n n := slot_of i0 rfl
      refine step_of_run (v := .agg #[.nilIface, .int .i64 n, .int .i64 n, .int .i64 0, .int .i64 last, .slice (some ⟨g1, 0, none⟩) (n + 1) (n + 1), .slice (some ⟨g2, 0, none⟩) (n + 1) (n + 1), .slice (some ⟨g3, 0, none⟩) (n + 1) (n + 1), .slice none 0 0, .slice (some ⟨g4, 0, none⟩) (n + 1) (n + 1), .slice (some ⟨PR, 0, none⟩) (n + 1) (n + 1), .slice (some ⟨OU, 0, none⟩) n n, .slice (some ⟨SE, 0, none⟩) (n + 1) (n + 1), .slice (some ⟨IN, 0, none⟩) n n, .slice none 0 0, .slice none 0 0, .slice none 0 0, .nilFunc, .nilFunc]) (w' := w1) ?_ ⟨_, rfl, (fun h => by cases h), ⟨g1, g2, g3, g4, PR, OU, SE, IN, rfl, ⟨f1, f2, f3, f4, p1, o1, s1, i1, f5, f6, f7, f8, p2, o2, s2, i2, f9, f10, hne⟩⟩, Only.refl, jk _ Only.refl, fun j x hji hx => ⟨fun h => by omega, fun h => by omega⟩⟩
      simp [execOp, go_sem, d0, d3, d6, d8, d11, d13]
    · obtain ⟨g1, g2, g3, g4, PR, OU, SE, IN, f0, hp⟩ := (hdep ⟨14, .data⟩ (by simp) rfl : phiP n last lo 14 (slotv _ U 14) w1)
      have d14 : U[319]?.getD undef = .agg #[.nilIface, .int .i64 n, .int .i64 n, .int .i64 0, .int .i64 last, .slice (some ⟨g1, 0, none⟩) (n + 1) (n + 1), .slice (some ⟨g2, 0, none⟩) (n + 1) (n + 1), .slice (some ⟨g3, 0, none⟩) (n + 1) (n + 1), .slice none 0 0, .slice (some ⟨g4, 0, none⟩) (n + 1) (n + 1), .slice (some ⟨PR, 0, none⟩) (n + 1) (n + 1), .slice (some ⟨OU, 0, none⟩) n n, .slice (some ⟨SE, 0, none⟩) (n + 1) (n + 1), .slice (some ⟨IN, 0, none⟩) n n, .slice none 0 0, .slice none 0 0, .slice none 0 0, .nilFunc, .nilFunc] := slot_of f0 rfl
      refine step_of_run (v := .pointer (some ⟨w1.heap.size, 0, none⟩)) (w' := w1.alloc (.cells #[.nilIface, .int .i64 n, .int .i64 n, .int .i64 0, .int .i64 last, .slice (some ⟨g1, 0, none⟩) (n + 1) (n + 1), .slice (some ⟨g2, 0, none⟩) (n + 1) (n + 1), .slice (some ⟨g3, 0, none⟩) (n + 1) (n + 1), .slice none 0 0, .slice (some ⟨g4, 0, none⟩) (n + 1) (n + 1), .slice (some ⟨PR, 0, none⟩) (n + 1) (n + 1), .slice (some ⟨OU, 0, none⟩) n n, .slice (some ⟨SE, 0, none⟩) (n + 1) (n + 1), .slice (some ⟨IN, 0, none⟩) n n, .slice none 0 0, .slice none 0 0, .slice none 0 0, .nilFunc, .nilFunc] 59)) ?_ ⟨_, rfl, (fun h => by cases h), ⟨w1.heap.size, g1, g2, g3, g4, PR, OU, SE, IN, rfl, hsz, ?_, hp.only (Only.refl.alloc _)⟩, Only.refl.alloc _, jk _ (Only.refl.alloc _), fun j x hji hx => ⟨fun h => by omega, fun h => by omega⟩⟩
      · simp [execOp, go_sem, d14]
      · have h9 := Row.newL w1 [.nilIface, .int .i64 n, .int .i64 n, .int .i64 0, .int .i64 last, .slice (some ⟨g1, 0, none⟩) (n + 1) (n + 1), .slice (some ⟨g2, 0, none⟩) (n + 1) (n + 1), .slice (some ⟨g3, 0, none⟩) (n + 1) (n + 1), .slice none 0 0, .slice (some ⟨g4, 0, none⟩) (n + 1) (n + 1), .slice (some ⟨PR, 0, none⟩) (n + 1) (n + 1), .slice (some ⟨OU, 0, none⟩) n n, .slice (some ⟨SE, 0, none⟩) (n + 1) (n + 1), .slice (some ⟨IN, 0, none⟩) n n, .slice none 0 0, .slice none 0 0, .slice none 0 0, .nilFunc, .nilFunc] 59
        refine h9.ext fun x hx => ?_
        rfl
    · have h15 := (hdep ⟨15, .data⟩ (by simp) rfl : phiP n last lo 15 (slotv _ U 15) w1)
      obtain ⟨PL, g1, g2, g3, g4, PR, OU, SE, IN, f0, f1, f2, f3⟩ := h15
      have d15 : U[320]?.getD undef = .pointer (some ⟨PL, 0, none⟩) := slot_of f0 rfl
      refine step_of_run (v := .pointer (some ⟨PL, 0, none⟩)) (w' := w1) ?_ ⟨_, rfl, (fun h => by cases h), ⟨PL, g1, g2, g3, g4, PR, OU, SE, IN, rfl, f1, f2, f3⟩, Only.refl, jk _ Only.refl, fun j x hji hx => ⟨fun h => by omega, fun h => by omega⟩⟩
      simp [execOp, go_sem, d15]
  · intro U w1 hU hK hJ hall hpair
    have h16 := hall 16 (by decide)
    generalize hx : slotv _ U 16 = x at h16
    have hv : U[51]?.getD undef = x := slot_of hx rfl
    rw [← hv] at h16
    have h17 : MadeP lo n last (U[51]?.getD undef) w1 := h16
    rw [hlo] at h17
    exact HQ.out U w1 _ (Kept.keeps hK (hU.trans hT.symm) (by decide)) rfl h17 hJ.1
end Go.Proofs.Ybulkcawy
