/-
  newFailurePattern and setFailures.
-/
import Derived.Test.YbulkcawySet
namespace Go.Proofs.Ybulkcawy
open Go.RowKit
set_option linter.unusedSimpArgs false
set_option linter.unusedVariables false
set_option maxRecDepth 100000
set_option maxHeartbeats 4000000

section
variable {P : Program} {ops : Array Oper} {Q : Exit → Act → World → Prop}
/-- A region that draws its order, by a fact for each operation and one for each pair. -/
theorem region_pairs {id : Nat} (hm : P.follows .mixedOrders = true) (T : Array Value) (N : Nat) (hT : T.size = N)
    (φ : Nat → Value → World → Prop) (ψ : Nat → Nat → Value → Value → Prop) (J : (Nat → Bool) → (Nat → Value) → World → Prop) (R : Nat → World → World → Prop)
    (hg : (ops.toList.all fun o => o.guard.isNone) = true)
    (ho : ((List.range ops.size).all fun i => match ops[i]? with | some o => o.after.toList.all fun e => !Region.binds .any e || decide (e.on < i) | none => true) = true)
    (hd : ((List.range ops.size).all fun i => (List.range ops.size).all fun j => i == j || ((ops[i]?).bind Oper.dst).isNone || ((ops[i]?).bind Oper.dst) != ((ops[j]?).bind Oper.dst)) = true)
    (hN : (ops.toList.all fun o => match o.dst with | some d => decide (d < N) | none => true) = true)
    (mono : ∀ i k v w w', k ≠ i → φ k v w → R i w w' → φ k v w')
    (hstep : ∀ i (hi : i < ops.size) (l : Nat → Bool) U w, l i = false → ClosedL ops l → J l (slotv ops U) w → U.size = N → Kept ops T U →
      (∀ e ∈ ops[i].after, Region.binds .any e = true → φ e.on (slotv ops U e.on) w) →
      (∀ e ∈ ops[i].after, ∀ e' ∈ ops[i].after, Region.binds .any e = true → Region.binds .any e' = true → e.on ≠ e'.on → ψ e.on e'.on (slotv ops U e.on) (slotv ops U e'.on)) →
      (ops[i]).wp P ⟨U, []⟩ w (fun a' w' => ∃ v, a' = (Act.mk U []).put ops[i].dst v ∧ (ops[i].dst = none → v = undef) ∧ φ i v w' ∧ R i w w' ∧ J (upd l i) (updv (slotv ops U) i v) w' ∧ ∀ j x, j ≠ i → φ j x w → ψ i j v x ∧ ψ j i x v) Q)
    (hend : ∀ U w, U.size = N → Kept ops T U → J (fun k => decide (k < ops.size)) (slotv ops U) w → (∀ i, i < ops.size → φ i (slotv ops U i) w) → (∀ i j, i < ops.size → j < ops.size → i ≠ j → ψ i j (slotv ops U i) (slotv ops U j)) → Q .normal ⟨U, []⟩ w)
    {w : World} (hJ : J (fun _ => false) (slotv ops T) w.drew) : (Code.region id ops true).wp P Q ⟨T, []⟩ w := by
  refine region_vars hm T N hT (fun _ _ _ => True) (fun l u w => J l u w ∧ (∀ k, k < ops.size → l k = true → φ k (u k) w) ∧ (∀ i j, i < ops.size → j < ops.size → i ≠ j → l i = true → l j = true → ψ i j (u i) (u j))) (fun _ _ _ => True) hg ho hd hN (fun _ _ _ _ _ _ _ _ => trivial) ?_ ?_ ⟨hJ, (fun k _ h => by cases h), (fun i j _ _ _ h => by cases h)⟩
  · rintro i hi l U w1 hli hcl ⟨hJ1, hφ, hψ⟩ hU hK hdep
    have hlt : ∀ e ∈ ops[i].after, Region.binds .any e = true → e.on < ops.size := fun e he hb => by
      have := List.all_eq_true.1 ho i (List.mem_range.2 hi)
      rw [Array.getElem?_eq_getElem hi] at this
      have := List.all_eq_true.1 this e (by simpa using he)
      have h2 : e.on < i := by simpa [hb] using this
      omega
    have h1 := hstep i hi l U w1 hli hcl hJ1 hU hK (fun e he hb => hφ e.on (hlt e he hb) (hdep e he hb).1) (fun e he e' he' hb hb' hne => hψ _ _ (hlt e he hb) (hlt e' he' hb') hne (hdep e he hb).1 (hdep e' he' hb').1)
    refine Oper.wp_mono ?_ h1
    rintro a' w' ⟨v, rfl, h2, h3, h4, h5, h6⟩
    refine ⟨v, rfl, h2, trivial, trivial, h5, fun k hk hlk => ?_, fun a b ha hb hne hla hlb => ?_⟩
    · unfold upd at hlk
      unfold updv
      by_cases e : k = i
      · subst e
        simpa using h3
      · rw [if_neg e] at hlk ⊢
        exact mono i k _ w1 w' e (hφ k hk hlk) h4
    · unfold upd at hla hlb
      unfold updv
      by_cases e : a = i
      · subst e
        have e' : b ≠ a := Ne.symm hne
        rw [if_neg e'] at hlb
        rw [if_pos rfl, if_neg e']
        exact (h6 b _ e' (hφ b hb hlb)).1
      · rw [if_neg e] at hla
        rw [if_neg e]
        by_cases e2 : b = i
        · subst e2
          rw [if_pos rfl]
          exact (h6 a _ e (hφ a ha hla)).2
        · rw [if_neg e2] at hlb
          rw [if_neg e2]
          exact hψ a b ha hb hne hla hlb
  · rintro U w1 hU hK ⟨hJ1, hφ, hψ⟩ _
    exact hend U w1 hU hK hJ1 (fun i hi => hφ i hi (by simp [hi])) (fun i j hi hj hne => hψ i j hi hj hne (by simp [hi]) (by simp [hj]))
end

/-- What waits for all the others is not listed while one of them is not. -/
theorem closed_last {ops : Array Oper} {l : Nat → Bool} (hcl : ClosedL ops l) (j : Nat) (hp : ((List.range ops.size).all fun i => i == j || (match ops[j]? with | some o => o.after.toList.any fun e => e.on == i && Region.binds .any e | none => false)) = true) (i : Nat) (hi : i < ops.size) (hne : i ≠ j) (hli : l i = false) : l j = false := by
  have h2 := List.all_eq_true.1 hp i (List.mem_range.2 hi)
  cases ho : ops[j]? with
  | none => rw [ho] at h2; simp [hne] at h2
  | some o =>
    rw [ho] at h2
    simp only [Bool.or_eq_true, beq_iff_eq, List.any_eq_true, Bool.and_eq_true] at h2
    rcases h2 with h2 | ⟨e, he, h2, h3⟩
    · exact absurd h2 hne
    · exact hcl.not hli ho (by simpa using he) h3 h2

theorem row_ne {w : World} {a b : Nat} {t t' : TypeId} {n n' : Nat} {m m' : Nat → Value} (h : Row w a t n m) (h' : Row w b t' n' m') (ht : t ≠ t') : a ≠ b := by
  rintro rfl
  obtain ⟨c, h1, _⟩ := h
  obtain ⟨c', h2, _⟩ := h'
  rw [h1] at h2
  injection h2 with h2
  injection h2 with _ h2
  exact ht h2

def fpN (last n g1 g2 g3 g4 : Nat) (k : Nat) : Value :=
  ([.int .i64 last, .slice (some ⟨g1, 0, none⟩) (n + 1) (n + 1), .slice (some ⟨g2, 0, none⟩) (n + 1) (n + 1), .slice (some ⟨g3, 0, none⟩) (n + 1) (n + 1), .slice none 0 0, .slice (some ⟨g4, 0, none⟩) (n + 1) (n + 1)] : List Value).getD k undef

/-- The block that a new value lies in. -/
def newB : Value → Option Nat
  | .slice (some a) _ _ => some a.block
  | .pointer (some a) => some a.block
  | _ => none
def isNew (i : Nat) : Bool := [4, 8, 12, 16, 18].contains i
def psiN (i j : Nat) (v x : Value) : Prop := isNew i = true → isNew j = true → ∀ g, newB v = some g → newB x ≠ some g
theorem psiN_none {i j : Nat} {v x : Value} (h : isNew i = false) : psiN i j v x ∧ psiN j i x v :=
  ⟨fun h1 => (by rw [h] at h1; cases h1), fun _ h1 => (by rw [h] at h1; cases h1)⟩
def phiN (A lo n last : Nat) : Nat → Value → World → Prop
  | 0, v, _ => v = .int .i64 last
  | 1, v, _ | 5, v, _ | 9, v, _ | 13, v, _ => v = .pointer (some ⟨A, 0, none⟩)
  | 2, v, _ | 6, v, _ | 10, v, _ | 14, v, _ => v = .int .i64 n
  | 3, v, _ | 7, v, _ | 11, v, _ | 15, v, _ => v = .int .i64 ((n : Int) + 1)
  | 4, v, w | 16, v, w => ∃ g, v = .slice (some ⟨g, 0, none⟩) (n + 1) (n + 1) ∧ lo ≤ g ∧ Row w g 3 (n + 1) (fun _ => .int .i64 0)
  | 8, v, w | 12, v, w => ∃ g, v = .slice (some ⟨g, 0, none⟩) (n + 1) (n + 1) ∧ lo ≤ g ∧ Row w g 92 (n + 1) (fun _ => .slice none 0 0)
  | 17, v, w => ∃ g1 g2 g3 g4 : Nat, v = .agg #[.int .i64 last, .slice (some ⟨g1, 0, none⟩) (n + 1) (n + 1), .slice (some ⟨g2, 0, none⟩) (n + 1) (n + 1), .slice (some ⟨g3, 0, none⟩) (n + 1) (n + 1), .slice none 0 0, .slice (some ⟨g4, 0, none⟩) (n + 1) (n + 1)] ∧ lo ≤ g1 ∧ lo ≤ g2 ∧ lo ≤ g3 ∧ lo ≤ g4 ∧ Row w g1 3 (n + 1) (fun _ => .int .i64 0) ∧ Row w g2 92 (n + 1) (fun _ => .slice none 0 0) ∧ Row w g3 92 (n + 1) (fun _ => .slice none 0 0) ∧ Row w g4 3 (n + 1) (fun _ => .int .i64 0) ∧ g1 ≠ g4 ∧ g2 ≠ g3
  | 18, v, w => ∃ g, v = .pointer (some ⟨g, 0, none⟩) ∧ lo ≤ g ∧ ∃ m, Row w g 47 6 m
  | 19, _, _ => True
  | _, _, _ => False
theorem phiN_lt {A lo n last j g : Nat} {x : Value} {w : World} (hj : isNew j = true) (h : phiN A lo n last j x w) (hg : newB x = some g) : g < w.heap.size := by
  unfold phiN at h
  split at h
  all_goals first
    | (simp [isNew] at hj; done)
    | (obtain ⟨g', rfl, _, hr⟩ := h; simp [newB] at hg; subst hg; exact hr.lt)
    | (obtain ⟨g', rfl, _, m, hr⟩ := h; simp [newB] at hg; subst hg; exact hr.lt)
    | exact h.elim
/-- What an operation may turn: nothing but, the last, the new pattern's cells. -/
def EndN (lo n last : Nat) (v : Value) (w : World) : Prop := ∃ F g1 g2 g3 g4 : Nat, v = .pointer (some ⟨F, 0, none⟩) ∧ lo ≤ F ∧ lo ≤ g1 ∧ lo ≤ g2 ∧ lo ≤ g3 ∧ lo ≤ g4 ∧ Row w F 47 6 (fpN last n g1 g2 g3 g4) ∧ Row w g1 3 (n + 1) (fun _ => .int .i64 0) ∧ Row w g2 92 (n + 1) (fun _ => .slice none 0 0) ∧ Row w g3 92 (n + 1) (fun _ => .slice none 0 0) ∧ Row w g4 3 (n + 1) (fun _ => .int .i64 0) ∧ g1 ≠ g4 ∧ g2 ≠ g3
def RN (i : Nat) (w w' : World) : Prop := if i = 19 then ∃ F, Only (fun b => b = F) w w' ∧ (∃ m, Row w F 47 6 m) ∧ ∃ m, Row w' F 47 6 m else Only (fun _ => False) w w'
theorem phiN_mono (A lo n last i k : Nat) (v : Value) (w w' : World) (hki : k ≠ i) (h : phiN A lo n last k v w) (hR : RN i w w') : phiN A lo n last k v w' := by
  have key : ∀ {g t m f}, t ≠ 47 → Row w g t m f → Row w' g t m f := fun ht hr => by
    unfold RN at hR
    split at hR
    · obtain ⟨F, h1, ⟨m, h2⟩, _⟩ := hR
      exact hr.only h1 (fun e => row_ne hr h2 ht e)
    · exact hr.only hR (fun h => h)
  have key2 : ∀ {g m}, Row w g 47 6 m → ∃ m, Row w' g 47 6 m := fun {g m} hr => by
    unfold RN at hR
    split at hR
    · obtain ⟨F, h1, _, h3⟩ := hR
      by_cases e : g = F
      · rw [e]; exact h3
      · exact ⟨m, hr.only h1 e⟩
    · exact ⟨m, hr.only hR (fun h => h)⟩
  unfold phiN at h ⊢
  split at h
  all_goals first
    | exact h
    | (obtain ⟨g, h1, h2, h3⟩ := h; exact ⟨g, h1, h2, key (by decide) h3⟩)
    | (obtain ⟨g, h1, h2, m, h3⟩ := h; exact ⟨g, h1, h2, key2 h3⟩)
    | (obtain ⟨g1, g2, g3, g4, h0, h1, h2, h3, h4, r1, r2, r3, r4, h5⟩ := h; exact ⟨g1, g2, g3, g4, h0, h1, h2, h3, h4, key (by decide) r1, key (by decide) r2, key (by decide) r3, key (by decide) r4, h5⟩)
    | exact h.elim

theorem info92 : (Yba.prog.info? 92).map (fun i => (i.zero, i.size, i.bytes)) = some (some (.slice none 0 0), 1, 24) := by kernel_rfl
theorem makeInts (n : Nat) (hn : n ≤ 100000) (w : World) : (Instr.makeSlice 29 (.int .i64 (n : Int)) (.int .i64 (n : Int))).run Yba.prog w = .ok (.slice (some ⟨w.heap.size, 0, none⟩) n n) (w.alloc (.cells (madeCells #[.int .i64 0] n) 3)) :=
  run_make_row' (P := Yba.prog) 29 3 (.int .i64 0) 8 Yba.underlying29 info3' rfl .i64 .i64 n (by omega) (by omega) w
theorem makeSlices (n : Nat) (hn : n ≤ 100000) (w : World) : (Instr.makeSlice 45 (.int .i64 (n : Int)) (.int .i64 (n : Int))).run Yba.prog w = .ok (.slice (some ⟨w.heap.size, 0, none⟩) n n) (w.alloc (.cells (madeCells #[.slice none 0 0] n) 92)) :=
  run_make_row' (P := Yba.prog) 45 92 (.slice none 0 0) 24 (by kernel_rfl) info92 rfl .i64 .i64 n (by omega) (by omega) w

theorem setNone (n last F g1 g2 g3 g4 : Nat) (hn1 : 1 ≤ n) (hn : n ≤ 6) (hl : last ≤ 5) (w1 : World) (rF : Row w1 F 47 6 (fpN last n g1 g2 g3 g4)) (r1 : Row w1 g1 3 (n + 1) (fun _ => .int .i64 0)) (r2 : Row w1 g2 92 (n + 1) (fun _ => .slice none 0 0)) (r3 : Row w1 g3 92 (n + 1) (fun _ => .slice none 0 0)) (r4 : Row w1 g4 3 (n + 1) (fun _ => .int .i64 0)) (p1 : g1 ≠ g4) (p2 : g2 ≠ g3) :
    Calls Yba.prog 23 #[.pointer (some ⟨F, 0, none⟩), .agg #[.slice none 0 0, .slice none 0 0]] w1 fun e w' => e = .returned (.tuple #[]) ∧ Row w' F 47 6 (fpN last n g1 g2 g3 g4) ∧ Row w' g1 3 (n + 1) (fun _ => .int .i64 0) ∧ Row w' g2 92 (n + 1) (fun _ => .slice none 0 0) ∧ Row w' g3 92 (n + 1) (fun _ => .slice none 0 0) ∧ Row w' g4 3 (n + 1) (fun _ => .int .i64 0) ∧ Only (fun b => b = F ∨ b = g1 ∨ b = g2 ∨ b = g3 ∨ b = g4) w1 w' := by
  have x1 : F ≠ g1 := row_ne rF r1 (by decide)
  have x2 : F ≠ g2 := row_ne rF r2 (by decide)
  have x3 : F ≠ g3 := row_ne rF r3 (by decide)
  have x4 : F ≠ g4 := row_ne rF r4 (by decide)
  have y1 : g1 ≠ g2 := row_ne r1 r2 (by decide)
  have y2 : g1 ≠ g3 := row_ne r1 r3 (by decide)
  have y3 : g2 ≠ g4 := row_ne r2 r4 (by decide)
  have y4 : g3 ≠ g4 := row_ne r3 r4 (by decide)
  have l0 := rF.lt
  have l1 := r1.lt
  have l2 := r2.lt
  have l3 := r3.lt
  have l4 := r4.lt
  obtain ⟨d, hd⟩ : ∃ d : SB, d = { P := F, o := 0, tP := 47, NP := 6, n := n, last := last, C := g1, R := g2, Lo := g3, LO := g4, B := w1.heap.size, EB := 0, hi := w1.heap.size + 1, mP := fpN last n g1 g2 g3 g4, cv := .slice none 0 0, ov := .slice none 0 0, cl := [], ol := [] } := ⟨_, rfl⟩
  have ok : SBok d (fun b => if b = F then 0 else if b = g1 then 1 else if b = g2 then 2 else if b = g3 then 3 else if b = g4 then 4 else 5) := by
    subst hd
    refine { P := ?_, C := ?_, R := ?_, Lo := ?_, LO := ?_, B := ?_, bP := Nat.lt_succ_of_lt l0, bC := Nat.lt_succ_of_lt l1, bR := Nat.lt_succ_of_lt l2, bLo := Nat.lt_succ_of_lt l3, bLO := Nat.lt_succ_of_lt l4, bB := Nat.lt_succ_self _, eP := Nat.zero_le _, eC := Nat.zero_le _, eR := Nat.zero_le _, eLo := Nat.zero_le _, eLO := Nat.zero_le _, eB := Nat.zero_le _, o5 := (by show 0 + 5 < 6; omega), m0 := rfl, m1 := rfl, m2 := rfl, m3 := rfl, m5 := rfl, n6 := hn, n1 := hn1, l5 := hl, clq := (fun c h => by cases h), cld := List.Pairwise.nil, cln := Nat.zero_le _, olq := (fun c h => by cases h), oln := Nat.zero_le _ }
    · simp
    · simp [Ne.symm x1]
    · simp [Ne.symm x2, Ne.symm y1]
    · simp [Ne.symm x3, Ne.symm y2, Ne.symm p2]
    · simp [Ne.symm x4, Ne.symm p1, Ne.symm y3, Ne.symm y4]
    · have e0 : w1.heap.size ≠ F := by omega
      have e1 : w1.heap.size ≠ g1 := by omega
      have e2 : w1.heap.size ≠ g2 := by omega
      have e3 : w1.heap.size ≠ g3 := by omega
      have e4 : w1.heap.size ≠ g4 := by omega
      simp [e0, e1, e2, e3, e4]
  have hset := setF d _ ok w1 (by rw [hd]) (by rw [hd]) (by rw [hd]; exact rF) (by rw [hd]; rfl) (by rw [hd]; exact r1) (by rw [hd]; exact r2) (by rw [hd]; exact r3) (by rw [hd]; exact r4) (by rw [hd]; exact .inl ⟨rfl, rfl⟩) (by rw [hd]; exact .inl ⟨rfl, rfl⟩)
  have hset' : Calls Yba.prog 23 #[.pointer (some ⟨F, 0, none⟩), .agg #[.slice none 0 0, .slice none 0 0]] w1 fun e w' => e = .returned (.tuple #[]) ∧ SetPost d w1 w' := by
    rw [hd] at hset ⊢
    exact hset
  refine hset'.mono ?_
  rintro e w2 ⟨rfl, fav, fl, reV, loV, hps, _, hmem, _, _, hr0, hlo0, hfe, ho⟩
  have hfl : fl = [] := by
    cases fl with
    | nil => rfl
    | cons q fl =>
      have := (hmem q).1 (by simp)
      rw [hd] at this
      simp [flF, hasF] at this
  have hfav := hfe hfl
  have hz1 := hps.sz
  have hP := hps.P
  have hC := hps.C
  have hR := hps.R
  have hLo := hps.Lo
  have hLO := hps.LO
  subst hd
  refine ⟨rfl, hP.ext fun k hk => ?_, hC.ext fun k hk => rfl, hR.ext fun k hk => hr0 k (by omega) rfl, hLo.ext fun k hk => hlo0 k (by omega) rfl, hLO.ext fun k hk => rfl, ho.mono (fun b hb e => ?_)⟩
  · by_cases e : k = 4
    · subst e
      simp only [hfav, if_true, Nat.zero_add]
      rfl
    · have : ¬ k = 0 + 4 := by omega
      simp only [this, if_false]
  · rcases e with e | e | e | e | e | e
    · exact .inl e
    · exact .inr (.inl e)
    · exact .inr (.inr (.inl e))
    · exact .inr (.inr (.inr (.inl e)))
    · exact .inr (.inr (.inr (.inr e)))
    · have h2 : w1.heap.size + 1 ≤ b := e
      omega

/-- A new pattern: no failure in it. -/
def NewPost (n last EB : Nat) (w w' : World) (v : Value) : Prop := ∃ g1 g2 g3 g4 : Nat, v = .agg #[.int .i64 last, .slice (some ⟨g1, 0, none⟩) (n + 1) (n + 1), .slice (some ⟨g2, 0, none⟩) (n + 1) (n + 1), .slice (some ⟨g3, 0, none⟩) (n + 1) (n + 1), .slice none 0 0, .slice (some ⟨g4, 0, none⟩) (n + 1) (n + 1)] ∧ w.heap.size ≤ g1 ∧ w.heap.size ≤ g2 ∧ w.heap.size ≤ g3 ∧ w.heap.size ≤ g4 ∧ Row w' g1 3 (n + 1) (fun _ => .int .i64 0) ∧ Row w' g2 92 (n + 1) (fun _ => .slice none 0 0) ∧ Row w' g3 92 (n + 1) (fun _ => .slice none 0 0) ∧ Row w' g4 3 (n + 1) (fun _ => .int .i64 0) ∧ g1 ≠ g4 ∧ g2 ≠ g3 ∧ Only (fun _ => False) w w'

theorem newPattern (n last : Nat) (hn1 : 1 ≤ n) (hn : n ≤ 6) (hl : last ≤ 5) (w : World) :
    Calls Yba.prog 10 #[.agg #[.int .i64 n, .int .i64 n, .int .i64 0], .slice none 0 0, .int .i64 last] w fun e w' => ∃ v, e = .returned v ∧ NewPost n last 0 w w' v := by
  have mkI := fun w => makeInts (n + 1) (by omega) w
  have mkS := fun w => makeSlices (n + 1) (by omega) w
  simp only [Int.natCast_add, Int.natCast_one] at mkI mkS
  have wrn : IntKind.i64.wrap ((n : Int) + 1) = (n : Int) + 1 := by rw [IntKind.wrap_i64]; omega
  refine calls_of_wp Yba.func10 rfl ?_
  refine gen_frame (fun U => U.size = 30 ∧ U[0]?.getD undef = .agg #[.int .i64 n, .int .i64 n, .int .i64 0] ∧ U[1]?.getD undef = .slice none 0 0 ∧ U[2]?.getD undef = .int .i64 last) ⟨by simp [Yba.ntmps10], by simp [Yba.ntmps10], by simp [Yba.ntmps10], by simp [Yba.ntmps10]⟩ ?_
  rintro T0 ⟨hT0, s0, s1, s2⟩
  have a0 : T0[0]'(by omega) = _ := at_of _ s0
  have a1 : T0[1]'(by omega) = _ := at_of _ s1
  have a2 : T0[2]'(by omega) = _ := at_of _ s2
  clear s0 s1 s2
  go_upto_region 1 with fail
  obtain ⟨A, hA⟩ : ∃ A, A = w.heap.size := ⟨_, rfl⟩
  obtain ⟨lo, hlo⟩ : ∃ lo, lo = w.heap.size + 2 := ⟨_, rfl⟩
  refine gen_both (fun U w0 => U.size = 30 ∧ U[1]?.getD undef = .slice none 0 0 ∧ U[2]?.getD undef = .int .i64 last ∧ U[3]?.getD undef = .pointer (some ⟨A, 0, none⟩) ∧ U[6]?.getD undef = .pointer (some ⟨w.heap.size + 1, 0, none⟩) ∧ Row w0 A 43 3 (fun k => if k = 2 then .int .i64 0 else .int .i64 n) ∧ (∃ m, Row w0 (w.heap.size + 1) 47 6 m) ∧ Only (fun _ => False) w w0 ∧ w0.heap.size = lo) ⟨by simp [hT0], by simp [hT0, a1], by simp [hT0, a2], by simp [hT0, hA], by simp [hT0], ?_, ?_, (Only.refl.alloc _).alloc _, by simp [hlo]⟩ ?_
  · rw [hA]
    refine ((Row.newL w [.int .i64 n, .int .i64 n, .int .i64 0] 43).alloc _).ext fun x hx => ?_
    have hx' : x < 3 := hx
    rcases (by omega : x = 0 ∨ x = 1 ∨ x = 2) with rfl | rfl | rfl <;> simp
  · have := Row.newL (w.alloc (.cells #[.int .i64 n, .int .i64 n, .int .i64 0] 43)) [.int .i64 0, .slice none 0 0, .slice none 0 0, .slice none 0 0, .slice none 0 0, .slice none 0 0] 47
    exact ⟨_, by simpa using this⟩
  clear a0 a1 a2 hT0
  clear T0
  rintro T w0 ⟨hT, t1, t2, t3, t6, hrA, hrV, ho0, hs0⟩
  have hAlo : A < lo := by omega
  have HRV := hidP hrV
  have HO0 := hidP ho0
  have HMI := hidP mkI
  have HMS := hidP mkS
  clear hrV mkI mkS
  refine region_pairs (by kernel_rfl) T 30 hT (phiN A lo n last) psiN (fun l u w1 => (Only (fun _ => False) w0 w1 ∧ Row w1 A 43 3 (fun k => if k = 2 then .int .i64 0 else .int .i64 n)) ∧ (l 19 = true → EndN lo n last (u 18) w1)) RN (by decide) (by decide) (by decide) (by decide) (phiN_mono A lo n last) ?_ ?_ ⟨⟨Only.refl.drew, hrA.drew⟩, fun h => by cases h⟩
  · intro i hi l U w1 hli hcl hJJ hU hK hdep hpair
    have hJ := hJJ.1
    have hl19 : i ≠ 19 → l 19 = false := fun hne => closed_last hcl 19 (by decide) i hi hne hli
    have jk : i ≠ 19 → ∀ (u : Nat → Value) w', Only (fun _ => False) w1 w' → (Only (fun _ => False) w0 w' ∧ Row w' A 43 3 (fun k => if k = 2 then .int .i64 0 else .int .i64 n)) ∧ (upd l i 19 = true → EndN lo n last (u 18) w') := fun hne u w' ho => ⟨⟨hJ.1.trans ho, hJ.2.only ho (fun h => h)⟩, fun h => by
      unfold upd at h
      rw [if_neg (Ne.symm hne), hl19 hne] at h
      cases h⟩
    have mkI := HMI.out
    have mkS := HMS.out
    have hsz : lo ≤ w1.heap.size := by have := hJ.1.size; omega
    have hps : ∀ {j i : Nat} {y v : Value}, phiN A lo n last j y w1 → newB v = some w1.heap.size → psiN i j v y ∧ psiN j i y v := fun {j i y v} hx hv =>
      ⟨fun _ hj g hg e => (by rw [hv] at hg; injection hg with hg; subst hg; exact absurd (phiN_lt hj hx e) (by omega)), fun hj _ g hg e => (by rw [hv] at e; injection e with e; subst e; exact absurd (phiN_lt hj hx hg) (by omega))⟩
    have hi' : i < 20 := hi
    rcases (by omega : i = 0 ∨ i = 1 ∨ i = 2 ∨ i = 3 ∨ i = 4 ∨ i = 5 ∨ i = 6 ∨ i = 7 ∨ i = 8 ∨ i = 9 ∨ i = 10 ∨ i = 11 ∨ i = 12 ∨ i = 13 ∨ i = 14 ∨ i = 15 ∨ i = 16 ∨ i = 17 ∨ i = 18 ∨ i = 19) with rfl | rfl | rfl | rfl | rfl | rfl | rfl | rfl | rfl | rfl | rfl | rfl | rfl | rfl | rfl | rfl | rfl | rfl | rfl | rfl
    · have rn : RN 0 w1 w1 := Only.refl
      have rna : ∀ o, RN 0 w1 (w1.alloc o) := fun o => Only.refl.alloc o
      have h2 : U[2]?.getD undef = .int .i64 last := kept_of hK 2 (by decide) t2
      refine step_of_run (v := .int .i64 last) (w' := w1) ?_ ⟨_, rfl, (fun h => by cases h), rfl, rn, jk (by decide) _ _ Only.refl, fun j x _ _ => psiN_none (by decide)⟩
      simp [execOp, go_sem, h2]
    · have rn : RN 1 w1 w1 := Only.refl
      have rna : ∀ o, RN 1 w1 (w1.alloc o) := fun o => Only.refl.alloc o
      have h3 : U[3]?.getD undef = .pointer (some ⟨A, 0, none⟩) := kept_of hK 3 (by decide) t3
      refine step_of_run (v := .pointer (some ⟨A, 0, none⟩)) (w' := w1) ?_ ⟨_, rfl, (fun h => by cases h), rfl, rn, jk (by decide) _ _ Only.refl, fun j x _ _ => psiN_none (by decide)⟩
      simp [execOp, go_sem, h3]
    · have rn : RN 2 w1 w1 := Only.refl
      have rna : ∀ o, RN 2 w1 (w1.alloc o) := fun o => Only.refl.alloc o
      have d1 : U[9]?.getD undef = .pointer (some ⟨A, 0, none⟩) := slot_of (hdep ⟨1, .data⟩ (by simp) rfl : phiN A lo n last 1 (slotv _ U 1) w1) rfl
      have cA : w1.cell? ⟨A, 0, none⟩ = some (.int .i64 n) := hJ.2.cell 0 (by omega)
      refine step_of_run (v := .int .i64 n) (w' := w1) ?_ ⟨_, rfl, (fun h => by cases h), rfl, rn, jk (by decide) _ _ Only.refl, fun j x _ _ => psiN_none (by decide)⟩
      simp [execOp, go_sem, d1, cA]
    · have rn : RN 3 w1 w1 := Only.refl
      have rna : ∀ o, RN 3 w1 (w1.alloc o) := fun o => Only.refl.alloc o
      have d2 : U[10]?.getD undef = .int .i64 n := slot_of (hdep ⟨2, .data⟩ (by simp) rfl : phiN A lo n last 2 (slotv _ U 2) w1) rfl
      refine step_of_run (v := .int .i64 ((n : Int) + 1)) (w' := w1) ?_ ⟨_, rfl, (fun h => by cases h), rfl, rn, jk (by decide) _ _ Only.refl, fun j x _ _ => psiN_none (by decide)⟩
      simp [execOp, go_sem, d2, wrn]
    · have rn : RN 4 w1 w1 := Only.refl
      have rna : ∀ o, RN 4 w1 (w1.alloc o) := fun o => Only.refl.alloc o
      have d3 : U[11]?.getD undef = .int .i64 ((n : Int) + 1) := slot_of (hdep ⟨3, .data⟩ (by simp) rfl : phiN A lo n last 3 (slotv _ U 3) w1) rfl
      refine step_of_run (v := .slice (some ⟨w1.heap.size, 0, none⟩) (n + 1) (n + 1)) (w' := w1.alloc (.cells (madeCells #[.int .i64 0] (n + 1)) 3)) ?_ ⟨_, rfl, (fun h => by cases h), ⟨_, rfl, hsz, Row.made _ _ _ _⟩, rna _, jk (by decide) _ _ (Only.refl.alloc _), fun j x hji hx => hps hx rfl⟩
      simp [execOp, go_sem, d3, mkI]
    · have rn : RN 5 w1 w1 := Only.refl
      have rna : ∀ o, RN 5 w1 (w1.alloc o) := fun o => Only.refl.alloc o
      have h3 : U[3]?.getD undef = .pointer (some ⟨A, 0, none⟩) := kept_of hK 3 (by decide) t3
      refine step_of_run (v := .pointer (some ⟨A, 0, none⟩)) (w' := w1) ?_ ⟨_, rfl, (fun h => by cases h), rfl, rn, jk (by decide) _ _ Only.refl, fun j x _ _ => psiN_none (by decide)⟩
      simp [execOp, go_sem, h3]
    · have rn : RN 6 w1 w1 := Only.refl
      have rna : ∀ o, RN 6 w1 (w1.alloc o) := fun o => Only.refl.alloc o
      have d5 : U[13]?.getD undef = .pointer (some ⟨A, 0, none⟩) := slot_of (hdep ⟨5, .data⟩ (by simp) rfl : phiN A lo n last 5 (slotv _ U 5) w1) rfl
      have cA : w1.cell? ⟨A, 0, none⟩ = some (.int .i64 n) := hJ.2.cell 0 (by omega)
      refine step_of_run (v := .int .i64 n) (w' := w1) ?_ ⟨_, rfl, (fun h => by cases h), rfl, rn, jk (by decide) _ _ Only.refl, fun j x _ _ => psiN_none (by decide)⟩
      simp [execOp, go_sem, d5, cA]
    · have rn : RN 7 w1 w1 := Only.refl
      have rna : ∀ o, RN 7 w1 (w1.alloc o) := fun o => Only.refl.alloc o
      have d6 : U[14]?.getD undef = .int .i64 n := slot_of (hdep ⟨6, .data⟩ (by simp) rfl : phiN A lo n last 6 (slotv _ U 6) w1) rfl
      refine step_of_run (v := .int .i64 ((n : Int) + 1)) (w' := w1) ?_ ⟨_, rfl, (fun h => by cases h), rfl, rn, jk (by decide) _ _ Only.refl, fun j x _ _ => psiN_none (by decide)⟩
      simp [execOp, go_sem, d6, wrn]
    · have rn : RN 8 w1 w1 := Only.refl
      have rna : ∀ o, RN 8 w1 (w1.alloc o) := fun o => Only.refl.alloc o
      have d7 : U[15]?.getD undef = .int .i64 ((n : Int) + 1) := slot_of (hdep ⟨7, .data⟩ (by simp) rfl : phiN A lo n last 7 (slotv _ U 7) w1) rfl
      refine step_of_run (v := .slice (some ⟨w1.heap.size, 0, none⟩) (n + 1) (n + 1)) (w' := w1.alloc (.cells (madeCells #[.slice none 0 0] (n + 1)) 92)) ?_ ⟨_, rfl, (fun h => by cases h), ⟨_, rfl, hsz, Row.made _ _ _ _⟩, rna _, jk (by decide) _ _ (Only.refl.alloc _), fun j x hji hx => hps hx rfl⟩
      simp [execOp, go_sem, d7, mkS]
    · have rn : RN 9 w1 w1 := Only.refl
      have rna : ∀ o, RN 9 w1 (w1.alloc o) := fun o => Only.refl.alloc o
      have h3 : U[3]?.getD undef = .pointer (some ⟨A, 0, none⟩) := kept_of hK 3 (by decide) t3
      refine step_of_run (v := .pointer (some ⟨A, 0, none⟩)) (w' := w1) ?_ ⟨_, rfl, (fun h => by cases h), rfl, rn, jk (by decide) _ _ Only.refl, fun j x _ _ => psiN_none (by decide)⟩
      simp [execOp, go_sem, h3]
    · have rn : RN 10 w1 w1 := Only.refl
      have rna : ∀ o, RN 10 w1 (w1.alloc o) := fun o => Only.refl.alloc o
      have d9 : U[17]?.getD undef = .pointer (some ⟨A, 0, none⟩) := slot_of (hdep ⟨9, .data⟩ (by simp) rfl : phiN A lo n last 9 (slotv _ U 9) w1) rfl
      have cA : w1.cell? ⟨A, 0, none⟩ = some (.int .i64 n) := hJ.2.cell 0 (by omega)
      refine step_of_run (v := .int .i64 n) (w' := w1) ?_ ⟨_, rfl, (fun h => by cases h), rfl, rn, jk (by decide) _ _ Only.refl, fun j x _ _ => psiN_none (by decide)⟩
      simp [execOp, go_sem, d9, cA]
    · have rn : RN 11 w1 w1 := Only.refl
      have rna : ∀ o, RN 11 w1 (w1.alloc o) := fun o => Only.refl.alloc o
      have d10 : U[18]?.getD undef = .int .i64 n := slot_of (hdep ⟨10, .data⟩ (by simp) rfl : phiN A lo n last 10 (slotv _ U 10) w1) rfl
      refine step_of_run (v := .int .i64 ((n : Int) + 1)) (w' := w1) ?_ ⟨_, rfl, (fun h => by cases h), rfl, rn, jk (by decide) _ _ Only.refl, fun j x _ _ => psiN_none (by decide)⟩
      simp [execOp, go_sem, d10, wrn]
    · have rn : RN 12 w1 w1 := Only.refl
      have rna : ∀ o, RN 12 w1 (w1.alloc o) := fun o => Only.refl.alloc o
      have d11 : U[19]?.getD undef = .int .i64 ((n : Int) + 1) := slot_of (hdep ⟨11, .data⟩ (by simp) rfl : phiN A lo n last 11 (slotv _ U 11) w1) rfl
      refine step_of_run (v := .slice (some ⟨w1.heap.size, 0, none⟩) (n + 1) (n + 1)) (w' := w1.alloc (.cells (madeCells #[.slice none 0 0] (n + 1)) 92)) ?_ ⟨_, rfl, (fun h => by cases h), ⟨_, rfl, hsz, Row.made _ _ _ _⟩, rna _, jk (by decide) _ _ (Only.refl.alloc _), fun j x hji hx => hps hx rfl⟩
      simp [execOp, go_sem, d11, mkS]
    · have rn : RN 13 w1 w1 := Only.refl
      have rna : ∀ o, RN 13 w1 (w1.alloc o) := fun o => Only.refl.alloc o
      have h3 : U[3]?.getD undef = .pointer (some ⟨A, 0, none⟩) := kept_of hK 3 (by decide) t3
      refine step_of_run (v := .pointer (some ⟨A, 0, none⟩)) (w' := w1) ?_ ⟨_, rfl, (fun h => by cases h), rfl, rn, jk (by decide) _ _ Only.refl, fun j x _ _ => psiN_none (by decide)⟩
      simp [execOp, go_sem, h3]
    · have rn : RN 14 w1 w1 := Only.refl
      have rna : ∀ o, RN 14 w1 (w1.alloc o) := fun o => Only.refl.alloc o
      have d13 : U[21]?.getD undef = .pointer (some ⟨A, 0, none⟩) := slot_of (hdep ⟨13, .data⟩ (by simp) rfl : phiN A lo n last 13 (slotv _ U 13) w1) rfl
      have cA : w1.cell? ⟨A, 0, none⟩ = some (.int .i64 n) := hJ.2.cell 0 (by omega)
      refine step_of_run (v := .int .i64 n) (w' := w1) ?_ ⟨_, rfl, (fun h => by cases h), rfl, rn, jk (by decide) _ _ Only.refl, fun j x _ _ => psiN_none (by decide)⟩
      simp [execOp, go_sem, d13, cA]
    · have rn : RN 15 w1 w1 := Only.refl
      have rna : ∀ o, RN 15 w1 (w1.alloc o) := fun o => Only.refl.alloc o
      have d14 : U[22]?.getD undef = .int .i64 n := slot_of (hdep ⟨14, .data⟩ (by simp) rfl : phiN A lo n last 14 (slotv _ U 14) w1) rfl
      refine step_of_run (v := .int .i64 ((n : Int) + 1)) (w' := w1) ?_ ⟨_, rfl, (fun h => by cases h), rfl, rn, jk (by decide) _ _ Only.refl, fun j x _ _ => psiN_none (by decide)⟩
      simp [execOp, go_sem, d14, wrn]
    · have rn : RN 16 w1 w1 := Only.refl
      have rna : ∀ o, RN 16 w1 (w1.alloc o) := fun o => Only.refl.alloc o
      have d15 : U[23]?.getD undef = .int .i64 ((n : Int) + 1) := slot_of (hdep ⟨15, .data⟩ (by simp) rfl : phiN A lo n last 15 (slotv _ U 15) w1) rfl
      refine step_of_run (v := .slice (some ⟨w1.heap.size, 0, none⟩) (n + 1) (n + 1)) (w' := w1.alloc (.cells (madeCells #[.int .i64 0] (n + 1)) 3)) ?_ ⟨_, rfl, (fun h => by cases h), ⟨_, rfl, hsz, Row.made _ _ _ _⟩, rna _, jk (by decide) _ _ (Only.refl.alloc _), fun j x hji hx => hps hx rfl⟩
      simp [execOp, go_sem, d15, mkI]
    · have rn : RN 17 w1 w1 := Only.refl
      have rna : ∀ o, RN 17 w1 (w1.alloc o) := fun o => Only.refl.alloc o
      have d0 : U[8]?.getD undef = .int .i64 last := slot_of (hdep ⟨0, .data⟩ (by simp) rfl : phiN A lo n last 0 (slotv _ U 0) w1) rfl
      obtain ⟨g1, e1, b1, r1⟩ := (hdep ⟨4, .data⟩ (by simp) rfl : phiN A lo n last 4 (slotv _ U 4) w1)
      obtain ⟨g2, e2, b2, r2⟩ := (hdep ⟨8, .data⟩ (by simp) rfl : phiN A lo n last 8 (slotv _ U 8) w1)
      obtain ⟨g3, e3, b3, r3⟩ := (hdep ⟨12, .data⟩ (by simp) rfl : phiN A lo n last 12 (slotv _ U 12) w1)
      obtain ⟨g4, e4, b4, r4⟩ := (hdep ⟨16, .data⟩ (by simp) rfl : phiN A lo n last 16 (slotv _ U 16) w1)
      have p1 : g1 ≠ g4 := fun e => by
        have := (hpair ⟨4, .data⟩ (by simp) ⟨16, .data⟩ (by simp) rfl rfl (by decide) : psiN 4 16 (slotv _ U 4) (slotv _ U 16)) (by decide) (by decide) g1 (by rw [e1]; rfl)
        rw [e4, e] at this
        exact this rfl
      have p2 : g2 ≠ g3 := fun e => by
        have := (hpair ⟨8, .data⟩ (by simp) ⟨12, .data⟩ (by simp) rfl rfl (by decide) : psiN 8 12 (slotv _ U 8) (slotv _ U 12)) (by decide) (by decide) g2 (by rw [e2]; rfl)
        rw [e3, e] at this
        exact this rfl
      have q4 := slot_of e1 rfl
      have q8 := slot_of e2 rfl
      have q12 := slot_of e3 rfl
      have q16 := slot_of e4 rfl
      refine step_of_run (v := .agg #[.int .i64 last, .slice (some ⟨g1, 0, none⟩) (n + 1) (n + 1), .slice (some ⟨g2, 0, none⟩) (n + 1) (n + 1), .slice (some ⟨g3, 0, none⟩) (n + 1) (n + 1), .slice none 0 0, .slice (some ⟨g4, 0, none⟩) (n + 1) (n + 1)]) (w' := w1) ?_ ⟨_, rfl, (fun h => by cases h), ⟨g1, g2, g3, g4, rfl, b1, b2, b3, b4, r1, r2, r3, r4, p1, p2⟩, rn, jk (by decide) _ _ Only.refl, fun j x _ _ => psiN_none (by decide)⟩
      simp [execOp, go_sem, d0, q4, q8, q12, q16]
    · have rn : RN 18 w1 w1 := Only.refl
      have rna : ∀ o, RN 18 w1 (w1.alloc o) := fun o => Only.refl.alloc o
      refine step_of_run (v := .pointer (some ⟨w1.heap.size, 0, none⟩)) (w' := w1.alloc (.cells #[.int .i64 0, .slice none 0 0, .slice none 0 0, .slice none 0 0, .slice none 0 0, .slice none 0 0] 47)) ?_ ⟨_, rfl, (fun h => by cases h), ⟨_, rfl, hsz, _, Row.newL _ _ _⟩, rna _, jk (by decide) _ _ (Only.refl.alloc _), fun j x hji hx => hps hx rfl⟩
      simp [execOp, go_sem]
    · obtain ⟨g1, g2, g3, g4, e17, b1, b2, b3, b4, r1, r2, r3, r4, p1, p2⟩ := (hdep ⟨17, .data⟩ (by simp) rfl : phiN A lo n last 17 (slotv _ U 17) w1)
      obtain ⟨F, e18, bF, mz, rF⟩ := (hdep ⟨18, .data⟩ (by simp) rfl : phiN A lo n last 18 (slotv _ U 18) w1)
      have q17 := slot_of e17 rfl
      have q18 := slot_of e18 rfl
      have k0 := rF.cell 0 (by omega)
      have k1 := rF.cell 1 (by omega)
      have k2 := rF.cell 2 (by omega)
      have k3 := rF.cell 3 (by omega)
      have k4 := rF.cell 4 (by omega)
      have k5 := rF.cell 5 (by omega)
      have kf := fun q => rF.frozen q
      have x1 : g1 ≠ F := row_ne r1 rF (by decide)
      have x2 : g2 ≠ F := row_ne r2 rF (by decide)
      have x3 : g3 ≠ F := row_ne r3 rF (by decide)
      have x4 : g4 ≠ F := row_ne r4 rF (by decide)
      refine step_of_skip (w' := (((((w1.setCell ⟨F, 0, none⟩ (.int .i64 last)).setCell ⟨F, 1, none⟩ (.slice (some ⟨g1, 0, none⟩) (n + 1) (n + 1))).setCell ⟨F, 2, none⟩ (.slice (some ⟨g2, 0, none⟩) (n + 1) (n + 1))).setCell ⟨F, 3, none⟩ (.slice (some ⟨g3, 0, none⟩) (n + 1) (n + 1))).setCell ⟨F, 4, none⟩ (.slice none 0 0)).setCell ⟨F, 5, none⟩ (.slice (some ⟨g4, 0, none⟩) (n + 1) (n + 1))) ?_ ⟨undef, rfl, (fun _ => rfl), trivial, ?_, ⟨⟨?_, ?_⟩, fun _ => ⟨F, g1, g2, g3, g4, e18, bF, b1, b2, b3, b4, ?_, ?_, ?_, ?_, ?_, p1, p2⟩⟩, fun j x _ _ => psiN_none (by decide)⟩
      · simp [execOp, go_sem, q17, q18, k0, k1, k2, k3, k4, k5, kf]
      · exact ⟨F, Only.setCell (S := fun b => b = F) (Only.setCell (S := fun b => b = F) (Only.setCell (S := fun b => b = F) (Only.setCell (S := fun b => b = F) (Only.setCell (S := fun b => b = F) (Only.setCell (S := fun b => b = F) Only.refl (fun _ => rfl) _) (fun _ => rfl) _) (fun _ => rfl) _) (fun _ => rfl) _) (fun _ => rfl) _) (fun _ => rfl) _, ⟨_, rF⟩, ⟨_, ((((((rF.set 0 _).set 1 _).set 2 _).set 3 _).set 4 _).set 5 _)⟩⟩
      · have hF : F < w0.heap.size → False := fun h => by omega
        exact Only.setCell (Only.setCell (Only.setCell (Only.setCell (Only.setCell (Only.setCell hJ.1 hF _) hF _) hF _) hF _) hF _) hF _
      · have xA : A ≠ F := by omega
        exact (((((hJ.2.far _ _ xA).far _ _ xA).far _ _ xA).far _ _ xA).far _ _ xA).far _ _ xA
      · refine ((((((rF.set 0 _).set 1 _).set 2 _).set 3 _).set 4 _).set 5 _).ext fun q hq => ?_
        rcases (by omega : q = 0 ∨ q = 1 ∨ q = 2 ∨ q = 3 ∨ q = 4 ∨ q = 5) with rfl | rfl | rfl | rfl | rfl | rfl <;> simp [fpN]
      · exact (((((r1.far _ _ x1).far _ _ x1).far _ _ x1).far _ _ x1).far _ _ x1).far _ _ x1
      · exact (((((r2.far _ _ x2).far _ _ x2).far _ _ x2).far _ _ x2).far _ _ x2).far _ _ x2
      · exact (((((r3.far _ _ x3).far _ _ x3).far _ _ x3).far _ _ x3).far _ _ x3).far _ _ x3
      · exact (((((r4.far _ _ x4).far _ _ x4).far _ _ x4).far _ _ x4).far _ _ x4).far _ _ x4
  · intro U w1 hU hK hJ hφ hψ
    obtain ⟨F, g1, g2, g3, g4, eF, bF, b1, b2, b3, b4, rF, r1, r2, r3, r4, p1, p2⟩ := hJ.2 rfl
    have u7 : U[7]'(by omega) = .pointer (some ⟨F, 0, none⟩) := at_of _ (slot_of eF rfl)
    have u1 : U[1]'(by omega) = .slice none 0 0 := at_of _ (kept_of hK 1 (by decide) t1)
    have u6 : U[6]'(by omega) = .pointer (some ⟨w.heap.size + 1, 0, none⟩) := at_of _ (kept_of hK 6 (by decide) t6)
    obtain ⟨mV, hrV⟩ := HRV.out
    have hrV1 : Row w1 (w.heap.size + 1) 47 6 mV := hrV.only hJ.1.1 (fun h => h)
    have HJ1 := hidP hJ.1.1
    have HRV1 := hidP hrV1
    have hset := setNone n last F g1 g2 g3 g4 hn1 hn hl w1 rF r1 r2 r3 r4 p1 p2
    have HSET := hidP hset
    have hVF : w.heap.size + 1 ≠ F := by omega
    have hl0 := rF.lt
    clear hset hφ hψ hJ hK eF t1 t2 t3 t6 hrV hrV1 rF r1 r2 r3 r4
    go_wp2_with (go_at_call 23; refine HSET.out.mono ?_; rintro e w2 ⟨rfl, rF, r1, r2, r3, r4, ho2⟩; have k0 : w2.cell? ⟨F, 0, none⟩ = some (.int .i64 last) := rF.cell 0 (by omega); have k1 : w2.cell? ⟨F, 1, none⟩ = some (.slice (some ⟨g1, 0, none⟩) (n + 1) (n + 1)) := rF.cell 1 (by omega); have k2 : w2.cell? ⟨F, 2, none⟩ = some (.slice (some ⟨g2, 0, none⟩) (n + 1) (n + 1)) := rF.cell 2 (by omega); have k3 : w2.cell? ⟨F, 3, none⟩ = some (.slice (some ⟨g3, 0, none⟩) (n + 1) (n + 1)) := rF.cell 3 (by omega); have k4 : w2.cell? ⟨F, 4, none⟩ = some (.slice none 0 0) := rF.cell 4 (by omega); have k5 : w2.cell? ⟨F, 5, none⟩ = some (.slice (some ⟨g4, 0, none⟩) (n + 1) (n + 1)) := rF.cell 5 (by omega); have hrV2 : Row w2 (w.heap.size + 1) 47 6 mV := HRV1.out.only ho2 (by omega); have z0 := hrV2.cell 0 (by omega); have z1 := hrV2.cell 1 (by omega); have z2 := hrV2.cell 2 (by omega); have z3 := hrV2.cell 3 (by omega); have z4 := hrV2.cell 4 (by omega); have z5 := hrV2.cell 5 (by omega); have f0 := hrV2.frozen 0; have f1 := hrV2.frozen 1; have f2 := hrV2.frozen 2; have f3 := hrV2.frozen 3; have f4 := hrV2.frozen 4; have f5 := hrV2.frozen 5; have RR := hidP (And.intro r1 (And.intro r2 (And.intro r3 (And.intro r4 (And.intro ho2 hrV2))))); clear rF r1 r2 r3 r4 ho2 hrV2)
    obtain ⟨r1, r2, r3, r4, ho2, hrV2⟩ := RR.out
    have hrV3 := (((((hrV2.set 0 (.int .i64 last)).set 1 (.slice (some ⟨g1, 0, none⟩) (n + 1) (n + 1))).set 2 (.slice (some ⟨g2, 0, none⟩) (n + 1) (n + 1))).set 3 (.slice (some ⟨g3, 0, none⟩) (n + 1) (n + 1))).set 4 (.slice none 0 0)).set 5 (.slice (some ⟨g4, 0, none⟩) (n + 1) (n + 1))
    have y0 := hrV3.cell 0 (by omega)
    have y1 := hrV3.cell 1 (by omega)
    have y2 := hrV3.cell 2 (by omega)
    have y3 := hrV3.cell 3 (by omega)
    have y4 := hrV3.cell 4 (by omega)
    have y5 := hrV3.cell 5 (by omega)
    have x1 : g1 ≠ w.heap.size + 1 := by omega
    have x2 : g2 ≠ w.heap.size + 1 := by omega
    have x3 : g3 ≠ w.heap.size + 1 := by omega
    have x4 : g4 ≠ w.heap.size + 1 := by omega
    have hV : w.heap.size + 1 < w.heap.size → False := fun h => by omega
    obtain ⟨W, hW⟩ : ∃ W, (((((w2.setCell ⟨w.heap.size + 1, 0, none⟩ (.int .i64 last)).setCell ⟨w.heap.size + 1, 1, none⟩ (.slice (some ⟨g1, 0, none⟩) (n + 1) (n + 1))).setCell ⟨w.heap.size + 1, 2, none⟩ (.slice (some ⟨g2, 0, none⟩) (n + 1) (n + 1))).setCell ⟨w.heap.size + 1, 3, none⟩ (.slice (some ⟨g3, 0, none⟩) (n + 1) (n + 1))).setCell ⟨w.heap.size + 1, 4, none⟩ (.slice none 0 0)).setCell ⟨w.heap.size + 1, 5, none⟩ (.slice (some ⟨g4, 0, none⟩) (n + 1) (n + 1)) = W := ⟨_, rfl⟩
    rw [hW] at y0 y1 y2 y3 y4 y5 ⊢
    simp at y0 y1 y2 y3 y4 y5
    refine bodyPost_ret (v := .agg #[.int .i64 last, .slice (some ⟨g1, 0, none⟩) (n + 1) (n + 1), .slice (some ⟨g2, 0, none⟩) (n + 1) (n + 1), .slice (some ⟨g3, 0, none⟩) (n + 1) (n + 1), .slice none 0 0, .slice (some ⟨g4, 0, none⟩) (n + 1) (n + 1)]) (by simp [results, Yba.results10, go_sem, hU, u6, y0, y1, y2, y3, y4, y5]) rfl ⟨_, rfl, g1, g2, g3, g4, rfl, by omega, by omega, by omega, by omega, ?_, ?_, ?_, ?_, p1, p2, ?_⟩
    all_goals rw [← hW]
    · exact (((((r1.far _ _ x1).far _ _ x1).far _ _ x1).far _ _ x1).far _ _ x1).far _ _ x1
    · exact (((((r2.far _ _ x2).far _ _ x2).far _ _ x2).far _ _ x2).far _ _ x2).far _ _ x2
    · exact (((((r3.far _ _ x3).far _ _ x3).far _ _ x3).far _ _ x3).far _ _ x3).far _ _ x3
    · exact (((((r4.far _ _ x4).far _ _ x4).far _ _ x4).far _ _ x4).far _ _ x4).far _ _ x4
    · have h1 : Only (fun _ => False) w w2 := (HO0.out.trans HJ1.out).trans' ho2 (fun b hb e => by omega)
      exact Only.setCell (Only.setCell (Only.setCell (Only.setCell (Only.setCell (Only.setCell h1 hV _) hV _) hV _) hV _) hV _) hV _
end Go.Proofs.Ybulkcawy
