/-
  takeCores: the core of every process that completes the round, till the run is ended.
-/
import Derived.Test.YbulkcawyDecide
namespace Go.Proofs.Ybulkcawy
open Go.RowKit
set_option linter.unusedSimpArgs false
set_option linter.unusedVariables false
set_option maxRecDepth 100000
set_option maxHeartbeats 4000000

theorem funcNe56 (f : Fn) (a b : Array Value) (w : World) : (Go.binOp .neq 56 (.func f a b) .nilFunc).run Yba.prog w = .ok (.bool true) w := by kernel_rfl
theorem funcNe57 (f : Fn) (a b : Array Value) (w : World) : (Go.binOp .neq 57 (.func f a b) .nilFunc).run Yba.prog w = .ok (.bool true) w := by kernel_rfl

def coreM (q t : Nat) (k : Nat) : Value := if k = 0 then .int .i64 q else if k = 1 then .int .i64 t else .string ⟨#[107]⟩

/-- What a kept core's slice is: none, or one event of its own block. -/
def CoreV (w : World) (base : Nat) (g : Option Nat) (v : Value) : Option (Nat × Nat) → Prop
  | none => v = .slice none 0 0
  | some (q, t) => ∃ b, v = .slice (some ⟨b, 0, none⟩) 1 1 ∧ base ≤ b ∧ g ≠ some b ∧ Row w b 40 3 (coreM q t)

def Cores (w : World) (base CO N : Nat) (g : Option Nat) (cm : Nat → Option (Nat × Nat)) : Prop :=
  ∃ M, Row w CO 37 N M ∧ ∀ k, k < N → CoreV w base g (M k) (cm k)

theorem CoreV.only {w w' : World} {base : Nat} {g g' : Option Nat} {v : Value} {o : Option (Nat × Nat)} {S : Nat → Prop} (h : CoreV w base g v o) (ho : Only S w w') (hn : NewG w g g') (hS : ∀ b, base ≤ b → S b → g = some b) : CoreV w' base g' v o := by
  match o, h with
  | none, h => exact h
  | some (q, t), ⟨b, h1, h2, h3, h4⟩ =>
    refine ⟨b, h1, h2, fun e => ?_, h4.only ho (fun e => h3 (hS b h2 e))⟩
    rcases hn b e with e | e
    · exact h3 e
    · have := h4.lt
      omega

theorem Cores.only {w w' : World} {base CO N : Nat} {g g' : Option Nat} {cm : Nat → Option (Nat × Nat)} {S : Nat → Prop} (h : Cores w base CO N g cm) (ho : Only S w w') (hn : NewG w g g') (hc : ¬ S CO) (hS : ∀ b, base ≤ b → S b → g = some b) : Cores w' base CO N g' cm := by
  obtain ⟨M, h1, h2⟩ := h
  exact ⟨M, h1.only ho hc, fun k hk => (h2 k hk).only ho hn hS⟩

/-- How many of the first k processes complete round r. -/
def cntC (cr : Nat → Nat) (r : Nat) : Nat → Nat
  | 0 => 0
  | k + 1 => cntC cr r k + (if compl cr (k + 1) r then 1 else 0)
theorem cntC_le (cr : Nat → Nat) (r k : Nat) : cntC cr r k ≤ k := by
  induction k with
  | zero => simp [cntC]
  | succ k ih => unfold cntC; split <;> omega
/-- What the first k processes' cores log. -/
def coresL (cr : Nat → Nat) (got : Nat → Nat) (r k : Nat) : List Int := (List.range k).flatMap fun j => if compl cr (j + 1) r then [-6, ((j + 1 : Nat) : Int), -7, ((j + 1 : Nat) : Int), (r : Int), (got (j + 1) : Int)] else []
theorem coresL_succ (cr got : Nat → Nat) (r k : Nat) : coresL cr got r (k + 1) = coresL cr got r k ++ (if compl cr (k + 1) r then [-6, ((k + 1 : Nat) : Int), -7, ((k + 1 : Nat) : Int), (r : Int), (got (k + 1) : Int)] else []) := by
  simp [coresL, List.range_succ, List.flatMap_append]
theorem coresL_len (cr got : Nat → Nat) (r k : Nat) : (coresL cr got r k).length ≤ 6 * k := by
  induction k with
  | zero => simp [coresL]
  | succ k ih =>
    rw [coresL_succ, List.length_append]
    split <;> simp <;> omega
/-- The process at whose core the run ends, among the first k; y: the cores before. -/
def stopK (cr : Nat → Nat) (r y s : Nat) : Nat → Option Nat
  | 0 => none
  | k + 1 => match stopK cr r y s k with
    | some j => some j
    | none => if compl cr (k + 1) r = true ∧ y + cntC cr r (k + 1) = s then some (k + 1) else none
theorem stopK_mono (cr : Nat → Nat) (r y s : Nat) {k j : Nat} (h : stopK cr r y s k = some j) (n : Nat) (hn : k ≤ n) : stopK cr r y s n = some j := by
  induction n with
  | zero => have : k = 0 := by omega
            subst this
            exact h
  | succ n ih =>
    by_cases e : k = n + 1
    · subst e; exact h
    · unfold stopK
      rw [ih (by omega)]
theorem stopK_le (cr : Nat → Nat) (r y s : Nat) {k j : Nat} (h : stopK cr r y s k = some j) : 1 ≤ j ∧ j ≤ k := by
  induction k with
  | zero => simp [stopK] at h
  | succ k ih =>
    unfold stopK at h
    cases hk : stopK cr r y s k with
    | some i =>
      rw [hk] at h
      simp only [Option.some.injEq] at h
      subst h
      have := ih hk
      omega
    | none =>
      rw [hk] at h
      simp only at h
      split at h
      · simp only [Option.some.injEq] at h
        omega
      · cases h
/-- The cores kept, those of the first k processes of round r anew. -/
def coreU (c : Cfg) (got : Nat → Nat) (r k : Nat) (cm : Nat → Option (Nat × Nat)) (x : Nat) : Option (Nat × Nat) :=
  if (r - 1) * c.n ≤ x ∧ x < (r - 1) * c.n + k ∧ compl c.cr (x - (r - 1) * c.n + 1) r = true then some (x - (r - 1) * c.n + 1, got (x - (r - 1) * c.n + 1)) else cm x
theorem coreU_skip (c : Cfg) (got : Nat → Nat) (r q : Nat) (cm : Nat → Option (Nat × Nat)) (hq : 1 ≤ q) (h : compl c.cr q r = false) : coreU c got r (q + 1 - 1) cm = coreU c got r (q - 1) cm := by
  funext x
  unfold coreU
  by_cases e : (r - 1) * c.n ≤ x ∧ x < (r - 1) * c.n + (q - 1) ∧ compl c.cr (x - (r - 1) * c.n + 1) r = true
  · rw [if_pos e, if_pos ⟨e.1, by omega, e.2.2⟩]
  · rw [if_neg e, if_neg (fun e' => ?_)]
    by_cases e2 : x = (r - 1) * c.n + (q - 1)
    · have e3 : x - (r - 1) * c.n + 1 = q := by omega
      rw [e3, h] at e'
      cases e'.2.2
    · exact e ⟨e'.1, by omega, e'.2.2⟩
theorem coreU_new (c : Cfg) (got : Nat → Nat) (r q : Nat) (cm : Nat → Option (Nat × Nat)) (hq : 1 ≤ q) (h : compl c.cr q r = true) (x : Nat) : coreU c got r (q + 1 - 1) cm x = if x = (r - 1) * c.n + (q - 1) then some (q, got q) else coreU c got r (q - 1) cm x := by
  by_cases e2 : x = (r - 1) * c.n + (q - 1)
  · rw [if_pos e2]
    have e3 : x - (r - 1) * c.n + 1 = q := by omega
    unfold coreU
    rw [e3, if_pos ⟨by omega, by omega, h⟩]
  · rw [if_neg e2]
    unfold coreU
    by_cases e : (r - 1) * c.n ≤ x ∧ x < (r - 1) * c.n + (q - 1) ∧ compl c.cr (x - (r - 1) * c.n + 1) r = true
    · rw [if_pos e, if_pos ⟨e.1, by omega, e.2.2⟩]
    · rw [if_neg e, if_neg (fun e' => e ⟨e'.1, by omega, e'.2.2⟩)]

/-- What lies where when the cores are kept. -/
structure Cfg.Keep (c : Cfg) (role : Nat → Nat) (KP CO Y S : Nat) : Prop where
  kp : role KP = 9
  co : role CO = 10
  y : role Y = 11
  s : role S = 12
  bkp : KP < c.base
  bco : CO < c.base
  by' : Y < c.base
  bs' : S < c.base
  ekp : c.kp = .slice (some ⟨KP, 0, none⟩) (c.n + 1) (c.n + 1)
  eco : c.co = .slice (some ⟨CO, 0, none⟩) (c.last * c.n) (c.last * c.n)
  eyi : c.yi = .func (.func 14) #[] #[.pointer (some ⟨Y, 0, none⟩), .pointer (some ⟨c.L, 0, none⟩), .pointer (some ⟨S, 0, none⟩)]

theorem takeCores (c : Cfg) (role : Nat → Nat) (hap : c.Apart role) (KP CO Y S : Nat) (hk : c.Keep role KP CO Y S) (r : Nat) (hr1 : 1 ≤ r) (hr2 : r ≤ c.last) (got : Nat → Nat) (hgot : ∀ q, got q ≤ 1000) (y s : Nat) (hy : y ≤ 900) (hs : s ≤ 1000) (cm : Nat → Option (Nat × Nat)) (xs : List Int) (g : Option Nat) (w : World) (hst : Stat c w) (hp : Procs c w got)
    (hkp : Row w KP 74 (c.n + 1) c.procM) (hco : Cores w c.base CO (c.last * c.n) g cm) (hY : Row w Y 3 1 (fun _ => .int .i64 y)) (hS : Row w S 3 1 (fun _ => .int .i64 s)) (hlog : LogAt w c.base c.L xs g) (hlen : xs.length ≤ 800000) :
    Calls Yba.prog 28 #[.pointer (some ⟨c.PL, 0, none⟩), .int .i64 r] w fun e w' => e = .returned (.bool (stopK c.cr r y s c.n).isNone) ∧ ∃ g', LogAt w' c.base c.L (xs ++ coresL c.cr got r ((stopK c.cr r y s c.n).getD c.n)) g' ∧ NewG w g g' ∧
      Cores w' c.base CO (c.last * c.n) g' (coreU c got r ((stopK c.cr r y s c.n).getD c.n) cm) ∧ Row w' Y 3 1 (fun _ => .int .i64 ((y + cntC c.cr r ((stopK c.cr r y s c.n).getD c.n) : Nat) : Int)) ∧ Only (fun b => LogS c.L g b ∨ b = CO ∨ b = Y) w w' := by
  have hsm := hap.small
  have hsm' := hap.small'
  obtain ⟨jm, hjm⟩ : ∃ jm, jm = (r - 1) * c.n := ⟨_, rfl⟩
  have hjI : ((r : Int) - 1) * (c.n : Int) = (jm : Int) := by
    rw [hjm]
    push_cast [hr1]
    rfl
  have hjb : jm + c.n ≤ c.last * c.n := by
    have h1 : (r - 1 + 1) * c.n ≤ c.last * c.n := Nat.mul_le_mul_right _ (by omega)
    rw [Nat.add_mul] at h1
    omega
  have hjc : c.last * c.n ≤ 5 * 6 := Nat.mul_le_mul (by omega) (by omega)
  obtain ⟨N, hN⟩ : ∃ N, N = c.last * c.n := ⟨_, rfl⟩
  have hkpE := hk.ekp
  have hcoE := hk.eco
  have hyiE := hk.eyi
  rw [← hN] at hco hjb hjc hcoE ⊢
  have HAP := hidP hap
  have HK := hidP hk
  have HST := hidP hst
  have HP := hidP hp
  have HKP := hidP hkp
  have HCO := hidP hco
  have HYY := hidP hY
  have HSS := hidP hS
  have HLOG := hidP hlog
  have HJM := hidP hjm
  have HN := hidP hN
  have HEK := hidP hkpE
  have HEC := hidP hcoE
  have HEY := hidP hyiE
  have HG := hidP hgot
  clear hst hp hkp hco hY hS hlog hap hk hjm hN hkpE hcoE hyiE hgot
  refine calls_of_wp Yba.func28 rfl ?_
  simp only [Yba.ntmps28, List.size_toArray, List.length_cons, List.length_nil, Nat.reduceAdd, Nat.reduceSub, Array.replicate_succ, Array.replicate_zero, List.push_toArray, List.append_toArray, List.nil_append, List.cons_append]
  have cN0 : w.cell? ⟨c.PL, 1, none⟩ = some (.int .i64 c.n) := HST.out.pl.cell 1 (by omega)
  go_wp2_with fail
  obtain ⟨I, hI⟩ : ∃ I : Nat → Array Value → World → Prop, I = (fun k T wr => ∃ q, 1 ≤ q ∧ q + k = c.n + 1 ∧ T.size = 69 ∧ T[0]?.getD undef = .pointer (some ⟨c.PL, 0, none⟩) ∧ T[1]?.getD undef = .int .i64 r ∧ T[5]?.getD undef = .int .i64 c.n ∧ T[6]?.getD undef = .int .i64 q ∧
    stopK c.cr r y s (q - 1) = none ∧ ∃ g1, LogAt wr c.base c.L (xs ++ coresL c.cr got r (q - 1)) g1 ∧ NewG w g g1 ∧ Cores wr c.base CO N g1 (coreU c got r (q - 1) cm) ∧ Row wr Y 3 1 (fun _ => .int .i64 ((y + cntC c.cr r (q - 1) : Nat) : Int)) ∧ Only (fun b => LogS c.L g b ∨ b = CO ∨ b = Y) w wr) := ⟨_, rfl⟩
  have HI := hidP hI
  clear hI cN0
  refine wp_loop_n I ?_ c.n _ _ ?_
  · intro k T wr hIk
    rw [HI.out] at hIk
    obtain ⟨q, hq1, hqk, hT, t0, t1, t5, t6, hnone, g1, k1, k2, k3, k4, k5⟩ := hIk
    have hap := HAP.out
    have hk := HK.out
    have hgb : ∀ b, b < c.base → b ≠ c.L → b ≠ CO → b ≠ Y → ¬ (LogS c.L g b ∨ b = CO ∨ b = Y) := fun b hb h1 h2 h3 h => by
      rcases h with (h | h) | h | h
      · exact h1 h
      · have := HLOG.out.block_lt h
        omega
      · exact h2 h
      · exact h3 h
    have hsr : Stat c wr := HST.out.only k5 (hgb _ hap.bpl (hap.ne hap.pl hap.log (by decide)) (hap.ne hap.pl hk.co (by decide)) (hap.ne hap.pl hk.y (by decide))) (hgb _ hap.bcr (hap.ne hap.cr hap.log (by decide)) (hap.ne hap.cr hk.co (by decide)) (hap.ne hap.cr hk.y (by decide))) (hgb _ hap.bpr (hap.ne hap.pr hap.log (by decide)) (hap.ne hap.pr hk.co (by decide)) (hap.ne hap.pr hk.y (by decide)))
    have hpr : Procs c wr got := HP.out.only k5 (fun q _ _ => hgb _ (hap.bap q) (hap.ne (hap.ap q) hap.log (by omega)) (hap.ne (hap.ap q) hk.co (by omega)) (hap.ne (hap.ap q) hk.y (by omega)))
    have hkpr : Row wr KP 74 (c.n + 1) c.procM := HKP.out.only k5 (hgb _ hk.bkp (hap.ne hk.kp hap.log (by decide)) (hap.ne hk.kp hk.co (by decide)) (hap.ne hk.kp hk.y (by decide)))
    have hssr : Row wr S 3 1 (fun _ => .int .i64 s) := HSS.out.only k5 (hgb _ hk.bs' (hap.ne hk.s hap.log (by decide)) (hap.ne hk.s hk.co (by decide)) (hap.ne hk.s hk.y (by decide)))
    have a0 : T[0]'(by omega) = _ := at_of _ t0
    have a1 : T[1]'(by omega) = _ := at_of _ t1
    have a5 : T[5]'(by omega) = _ := at_of _ t5
    have a6 : T[6]'(by omega) = _ := at_of _ t6
    have HSR := hidP hsr
    have HPR := hidP hpr
    have HKPR := hidP hkpr
    have HSSR := hidP hssr
    have HNO := hidP hnone
    have K1 := hidP k1
    have K2 := hidP k2
    have K3 := hidP k3
    have K4 := hidP k4
    have K5 := hidP k5
    clear hsr hpr hkpr hssr hnone k1 k2 k3 k4 k5 t0 t1 t5 t6 hgb hap hk
    go_upto_if 15 with fail
    refine wp_cond_at (decide (q ≤ c.n)) (by simp [Act.eval, hT]) (fun h => ?_) (fun h => ?_)
    · have hqn : q ≤ c.n := of_decide_eq_true h
      clear h
      have hap := HAP.out
      have hk := HK.out
      obtain ⟨fa0, fl, fc, hfa⟩ := hap.fasl
      have f4 : wr.cell? ⟨c.PL, 4, none⟩ = some (.int .i64 c.last) := HSR.out.pl.cell 4 (by omega)
      have f5 : wr.cell? ⟨c.PL, 5, none⟩ = some (.slice (some ⟨c.C, 0, none⟩) (c.n + 1) (c.n + 1)) := HSR.out.pl.cell 5 (by omega)
      have f6 : wr.cell? ⟨c.PL, 6, none⟩ = some (.slice (some ⟨c.R, 0, none⟩) (c.n + 1) (c.n + 1)) := HSR.out.pl.cell 6 (by omega)
      have f7 : wr.cell? ⟨c.PL, 7, none⟩ = some (.slice (some ⟨c.Lo, 0, none⟩) (c.n + 1) (c.n + 1)) := HSR.out.pl.cell 7 (by omega)
      have f8 : wr.cell? ⟨c.PL, 8, none⟩ = some (.slice fa0 fl fc) := (HSR.out.pl.cell 8 (by omega)).trans (by rw [← hfa]; rfl)
      have f9 : wr.cell? ⟨c.PL, 9, none⟩ = some (.slice (some ⟨c.LO, 0, none⟩) (c.n + 1) (c.n + 1)) := HSR.out.pl.cell 9 (by omega)
      have HFA := hidP hfa
      clear hfa hap hk
      refine gen_frame (fun U => U.size = 69 ∧ U[0]?.getD undef = .pointer (some ⟨c.PL, 0, none⟩) ∧ U[1]?.getD undef = .int .i64 r ∧ U[5]?.getD undef = .int .i64 c.n ∧ U[6]?.getD undef = .int .i64 q) ⟨by simp [hT], by simp [hT, a0], by simp [hT, a1], by simp [hT, a5], by simp [hT, a6]⟩ ?_
      rintro U ⟨hU, u0, u1, u5, u6⟩
      have b0 : U[0]'(by omega) = _ := at_of _ u0
      have b1 : U[1]'(by omega) = _ := at_of _ u1
      have b5 : U[5]'(by omega) = _ := at_of _ u5
      have b6 : U[6]'(by omega) = _ := at_of _ u6
      clear u0 u1 u5 u6 a0 a1 a5 a6 hT
      go_upto_if 25 with (go_at_call 24; refine (completes c.last c.n c.C c.R c.Lo c.LO q r (.slice fa0 fl fc) ⟨fa0, fl, fc, rfl⟩ c.cr wr HSR.out.cr hqn).mono ?_; rintro e w2 ⟨rfl, ho⟩)
      have ho2 : ∃ wz, Only (fun _ => False) wr wz ∧ wz = w2 := ⟨w2, ho, rfl⟩
      obtain ⟨wz, hoz, rfl⟩ := ho2
      have hsz : Stat c wz := HSR.out.only hoz (fun h => h) (fun h => h) (fun h => h)
      have HSZ := hidP hsz
      have HPZ := hidP (HPR.out.only hoz (fun _ _ _ h => h))
      have HLZ := hidP (K1.out.only hoz (fun h => h) (fun _ _ h => h))
      have HKZ := hidP (HKPR.out.only hoz (fun h => h))
      have HSSZ := hidP (HSSR.out.only hoz (fun h => h))
      have HYZ := hidP (K4.out.only hoz (fun h => h))
      have HCZ := hidP (K3.out.only hoz (NewG.refl _ _) (fun h => h) (fun _ _ h => h.elim))
      have HBZ := hidP (K5.out.trans' hoz (fun _ _ h => h.elim))
      have hzz : wr.heap.size ≤ wz.heap.size := hoz.size
      clear hoz ho hsz f4 f5 f6 f7 f8 f9
      have e1 : q - 1 + 1 = q := by omega
      have e2 : q + 1 - 1 = q - 1 + 1 := by omega
      refine wp_cond_at (!compl c.cr q r) (by simp [Act.eval, hU]) (fun hc => ?_) (fun hc => ?_)
      · have hcc : compl c.cr q r = false := by simpa using hc
        clear hc
        refine gen_frame (fun V => V.size = 69 ∧ V[0]?.getD undef = .pointer (some ⟨c.PL, 0, none⟩) ∧ V[1]?.getD undef = .int .i64 r ∧ V[5]?.getD undef = .int .i64 c.n ∧ V[6]?.getD undef = .int .i64 q) ⟨by simp [hU], by simp [hU, b0], by simp [hU, b1], by simp [hU, b5], by simp [hU, b6]⟩ ?_
        rintro T3 ⟨hT3, v0, v1, v5, v6⟩
        have d0 : T3[0]'(by omega) = _ := at_of _ v0
        have d1 : T3[1]'(by omega) = _ := at_of _ v1
        have d5 : T3[5]'(by omega) = _ := at_of _ v5
        have d6 : T3[6]'(by omega) = _ := at_of _ v6
        clear v0 v1 v5 v6 b0 b1 b5 b6
        go_wp2_with fail
        first | refine ⟨trivial, k - 1, by omega, ?_⟩ | refine ⟨k - 1, by omega, ?_⟩
        rw [HI.out]
        refine ⟨q + 1, by omega, by omega, by simp [hT3], by simp [hT3, d0], by simp [hT3, d1], by simp [hT3, d5], by simp [hT3], ?_, g1, ?_, K2.out, ?_, ?_, HBZ.out⟩
        · rw [e2, stopK, HNO.out, e1]
          simp [hcc]
        · rw [e2, coresL_succ, e1, hcc]
          simpa using HLZ.out
        · rw [coreU_skip c got r q cm hq1 hcc]
          exact HCZ.out
        · rw [e2, cntC, e1, hcc]
          simpa using HYZ.out
      · have hcc : compl c.cr q r = true := by simpa using hc
        clear hc
        have hap := HAP.out
        have hk := HK.out
        have cKP : wz.cell? ⟨c.PL, 14, none⟩ = some (.slice (some ⟨KP, 0, none⟩) (c.n + 1) (c.n + 1)) := (HSZ.out.pl.cell 14 (by omega)).trans (by rw [← HEK.out]; rfl)
        have cAP : wz.cell? ⟨KP, q, none⟩ = some (.iface 64 (.pointer (some ⟨c.ap q, 0, none⟩))) := by have := HKZ.out.cell q (by omega); rwa [Cfg.procM, if_neg (by omega)] at this
        have g1a : (0 : Int) ≤ (q : Int) := by omega
        have g1b : (q : Int) < (c.n : Int) + 1 := by omega
        have hmd := methCore
        refine gen_frame (fun V => V.size = 69 ∧ V[0]?.getD undef = .pointer (some ⟨c.PL, 0, none⟩) ∧ V[1]?.getD undef = .int .i64 r ∧ V[5]?.getD undef = .int .i64 c.n ∧ V[6]?.getD undef = .int .i64 q) ⟨by simp [hU], by simp [hU, b0], by simp [hU, b1], by simp [hU, b5], by simp [hU, b6]⟩ ?_
        rintro T3 ⟨hT3, v0, v1, v5, v6⟩
        have d0 : T3[0]'(by omega) = _ := at_of _ v0
        have d1 : T3[1]'(by omega) = _ := at_of _ v1
        have d5 : T3[5]'(by omega) = _ := at_of _ v5
        have d6 : T3[6]'(by omega) = _ := at_of _ v6
        have hAPL : c.ap q ≠ c.L := hap.ne (hap.ap q) hap.log (by omega)
        have hbl := hap.blog
        have hba := hap.bap q
        have hlz : ((xs ++ coresL c.cr got r (q - 1))).length ≤ 850000 := by have := coresL_len c.cr got r (q - 1); simp; omega
        have HQ := hidP (And.intro hap hk)
        clear v0 v1 v5 v6 b0 b1 b5 b6 hap hk
        go_upto_if 38 with (go_at_call 59; refine (core (c.ap q) c.L c.base q (c.dec q) (got q) (xs ++ coresL c.cr got r (q - 1)) g1 wz (HPZ.out q hq1 hqn) hAPL hba hbl HSZ.out.bs HLZ.out (by omega) (by omega)).mono ?_; rintro e w3 ⟨b, rfl, hb1, hE, g2, l1, l2, l3, l4⟩; obtain ⟨L4, L4e⟩ : ∃ x : Hid (Only (LogS c.L g1) wz w3), True := ⟨hidP l4, trivial⟩; have cCO : w3.cell? ⟨c.PL, 16, none⟩ = some (.slice (some ⟨CO, 0, none⟩) N N) := ((HSZ.out.only l4 (S := LogS c.L g1) (by rintro (h | h); exact HAP.out.ne HAP.out.pl HAP.out.log (by decide) h; have := K1.out.block_lt h; have := HAP.out.bpl; omega) (by rintro (h | h); exact HAP.out.ne HAP.out.cr HAP.out.log (by decide) h; have := K1.out.block_lt h; have := HAP.out.bcr; omega) (by rintro (h | h); exact HAP.out.ne HAP.out.pr HAP.out.log (by decide) h; have := K1.out.block_lt h; have := HAP.out.bpr; omega)).pl.cell 16 (by omega)).trans (by rw [← HEC.out]; rfl))
        refine wp_cond_at true (by simp [Act.eval, hT3]) (fun _ => ?_) (fun h => by cases h)
        refine gen_frame (fun V => V.size = 69 ∧ V[0]?.getD undef = .pointer (some ⟨c.PL, 0, none⟩) ∧ V[1]?.getD undef = .int .i64 r ∧ V[5]?.getD undef = .int .i64 c.n ∧ V[6]?.getD undef = .int .i64 q ∧ V[7]?.getD undef = .slice (some ⟨b, 0, none⟩) 1 1) ⟨by simp [hT3], by simp [hT3, d0], by simp [hT3, d1], by simp [hT3, d5], by simp [hT3, d6], by simp [hT3]⟩ ?_
        rintro U3 ⟨hU3, v0, v1, v5, v6, v7⟩
        have c0 : U3[0]'(by omega) = _ := at_of _ v0
        have c1 : U3[1]'(by omega) = _ := at_of _ v1
        have c5 : U3[5]'(by omega) = _ := at_of _ v5
        have c6 : U3[6]'(by omega) = _ := at_of _ v6
        have c7 : U3[7]'(by omega) = _ := at_of _ v7
        have hap := HAP.out
        have hk := HK.out
        have hnl : ∀ x, x < c.base → x ≠ c.L → ¬ LogS c.L g1 x := fun x hx h1 h => by
          rcases h with h | h
          · exact h1 h
          · have := K1.out.block_lt h
            omega
        have hst3 : Stat c w3 := HSZ.out.only l4 (hnl _ hap.bpl (hap.ne hap.pl hap.log (by decide))) (hnl _ hap.bcr (hap.ne hap.cr hap.log (by decide))) (hnl _ hap.bpr (hap.ne hap.pr hap.log (by decide)))
        have hco3 : Cores w3 c.base CO N g2 (coreU c got r (q - 1) cm) := HCZ.out.only l4 l2 (hnl _ hk.bco (hap.ne hk.co hap.log (by decide))) (fun x hx h => by
          rcases h with h | h
          · have := hap.blog; omega
          · exact h)
        obtain ⟨M, hM1, hM2⟩ := hco3
        obtain ⟨j, hj⟩ : ∃ j, j = jm + (q - 1) := ⟨_, rfl⟩
        have hjq : (jm : Int) + (q : Int) - 1 = (j : Int) := by omega
        have hjn : j < N := by omega
        have i1 : (0 : Int) ≤ (j : Int) := by omega
        have i2 : (j : Int) < (N : Int) := by omega
        have cM := hM1.cell j hjn
        have fM := hM1.frozen j
        have hb3 : b < w3.heap.size := hE.lt
        have hCOb : CO ≠ b := by have := hk.bco; have := HSZ.out.bs; omega
        obtain ⟨w4, hw4⟩ : ∃ w4, w3.setCell ⟨CO, j, none⟩ (.slice (some ⟨b, 0, none⟩) 1 1) = w4 := ⟨_, rfl⟩
        have ho4 : Only (fun x => x = CO) w3 w4 := by rw [← hw4]; exact Only.setCell (S := fun x => x = CO) Only.refl (p := ⟨CO, j, none⟩) (fun _ => rfl) _
        have hM4 : Row w4 CO 37 N (fun x => if x = j then .slice (some ⟨b, 0, none⟩) 1 1 else M x) := by rw [← hw4]; exact hM1.set j _
        have HS4 := hidP (hst3.only ho4 (hap.ne hap.pl hk.co (by decide)) (hap.ne hap.cr hk.co (by decide)) (hap.ne hap.pr hk.co (by decide)))
        have HL4 := hidP (l1.only ho4 (fun h => hap.ne hap.log hk.co (by decide) h) (fun x hx h => by have := l1.block_lt hx; have := hk.bco; omega))
        have HE4 := hidP (hE.only ho4 (fun h => hCOb h.symm))
        have HY4 := hidP ((HYZ.out.only l4 (hnl _ hk.by' (hap.ne hk.y hap.log (by decide)))).only ho4 (hap.ne hk.y hk.co (by decide)))
        have HSS4 := hidP ((HSSZ.out.only l4 (hnl _ hk.bs' (hap.ne hk.s hap.log (by decide)))).only ho4 (hap.ne hk.s hk.co (by decide)))
        have HM4 := hidP hM4
        have HM2 := hidP hM2
        have HEE := hidP hE
        have HO4 := hidP ho4
        have L1 := hidP l1
        have L2 := hidP l2
        have L3 := hidP l3
        have HJ := hidP hj
        clear v0 v1 v5 v6 v7 d0 d1 d5 d6 hst3 hM1 hM2 hE l1 l2 l3 l4 hM4 ho4 cKP cAP hmd hj hnl hap hk
        go_upto_region 9 with fail
        refine gen_frame (fun V => V.size = 69 ∧ V[0]?.getD undef = .pointer (some ⟨c.PL, 0, none⟩) ∧ V[1]?.getD undef = .int .i64 r ∧ V[5]?.getD undef = .int .i64 c.n ∧ V[6]?.getD undef = .int .i64 q ∧ V[7]?.getD undef = .slice (some ⟨b, 0, none⟩) 1 1) ⟨by simp [hU3], by simp [hU3, c0], by simp [hU3, c1], by simp [hU3, c5], by simp [hU3, c6], by simp [hU3, c7]⟩ ?_
        rintro T4 ⟨hT4, v0, v1, v5, v6, v7⟩
        have hap := HAP.out
        have hk := HK.out
        have cYI4 : w4.cell? ⟨c.PL, 17, none⟩ = some (.func (.func 14) #[] #[.pointer (some ⟨Y, 0, none⟩), .pointer (some ⟨c.L, 0, none⟩), .pointer (some ⟨S, 0, none⟩)]) := (HS4.out.pl.cell 17 (by omega)).trans (by rw [← HEY.out]; rfl)
        have hgq := HG.out q
        have hy4 : y + cntC c.cr r (q - 1) ≤ 1000 := by have := cntC_le c.cr r (q - 1); omega
        have hlen4 : ((xs ++ coresL c.cr got r (q - 1)) ++ [-6, (q : Int)]).length ≤ 900000 := by rw [List.length_append]; simp only [List.length_cons, List.length_nil]; omega
        have hYL : Y ≠ c.L := hap.ne hk.y hap.log (by decide)
        have hSL : S ≠ c.L := hap.ne hk.s hap.log (by decide)
        have hSY : S ≠ Y := hap.ne hk.s hk.y (by decide)
        have hbY : b ≠ Y := by have := hk.by'; have := HSZ.out.bs; omega
        clear hjq i1 i2 cM fM c0 c1 c5 c6 c7 cCO
        refine region_plainW _ 69 hT4 [.pointer (some ⟨c.PL, 0, none⟩), .pointer (some ⟨c.PL, 0, none⟩), .pointer (some ⟨c.PL, 17, none⟩), .func (.func 14) #[] #[.pointer (some ⟨Y, 0, none⟩), .pointer (some ⟨c.L, 0, none⟩), .pointer (some ⟨S, 0, none⟩)], .bool true, .bool true, .pointer (some ⟨c.PL, 0, none⟩), .pointer (some ⟨c.PL, 0, none⟩), .pointer (some ⟨c.PL, 17, none⟩), .func (.func 14) #[] #[.pointer (some ⟨Y, 0, none⟩), .pointer (some ⟨c.L, 0, none⟩), .pointer (some ⟨S, 0, none⟩)], .int .i64 q, .int .i64 r, .slice (some ⟨b, 0, none⟩) 1 1, .agg #[.int .i64 q, .int .i64 r, .slice (some ⟨b, 0, none⟩) 1 1], .bool (decide (y + cntC c.cr r (q - 1) + 1 ≠ s)), .bool (!decide (y + cntC c.cr r (q - 1) + 1 ≠ s)), .bool (!decide (y + cntC c.cr r (q - 1) + 1 ≠ s))] (fun i w1 => if i ≤ 14 then w1 = w4 else (∃ g3, LogAt w1 c.base c.L ((xs ++ coresL c.cr got r (q - 1)) ++ [-6, (q : Int)] ++ [-7, (q : Int), (r : Int), (got q : Int)]) g3 ∧ NewG w4 g2 g3 ∧ Row w1 Y 3 1 (fun _ => .int .i64 ((y + cntC c.cr r (q - 1) + 1 : Nat) : Int)) ∧ Only (fun b => LogS c.L g2 b ∨ b = Y) w4 w1)) w4 rfl (by decide) (by decide) ?_ ?_
        · intro i hi U w1 hSt hU hK hprev
          have hi' : i < 17 := hi
          rcases (by omega : i = 0 ∨ i = 1 ∨ i = 2 ∨ i = 3 ∨ i = 4 ∨ i = 5 ∨ i = 6 ∨ i = 7 ∨ i = 8 ∨ i = 9 ∨ i = 10 ∨ i = 11 ∨ i = 12 ∨ i = 13 ∨ i = 14 ∨ i = 15 ∨ i = 16) with rfl | rfl | rfl | rfl | rfl | rfl | rfl | rfl | rfl | rfl | rfl | rfl | rfl | rfl | rfl | rfl | rfl
          · have hw1 : w1 = w4 := hSt
            subst hw1
            have hx0 : U[0]?.getD undef = .pointer (some ⟨c.PL, 0, none⟩) := kept_of hK 0 (by decide) (by assumption)
            refine .inl ⟨want_none rfl, ?_⟩
            refine step_of_run (v := .pointer (some ⟨c.PL, 0, none⟩)) (w' := _) ?_ ⟨rfl, _, rfl, (fun h => by cases h), rfl⟩
            simp [execOp, go_sem, hx0, cYI4, funcNe56]
          · have hw1 : w1 = w4 := hSt
            subst hw1
            have d0 : U[52]?.getD undef = .pointer (some ⟨c.PL, 0, none⟩) := slot_of (hprev 0 (by decide)) rfl
            refine .inl ⟨want_none rfl, ?_⟩
            refine step_of_run (v := .pointer (some ⟨c.PL, 0, none⟩)) (w' := _) ?_ ⟨rfl, _, rfl, (fun h => by cases h), rfl⟩
            simp [execOp, go_sem, d0, cYI4, funcNe56]
          · have hw1 : w1 = w4 := hSt
            subst hw1
            have d1 : U[53]?.getD undef = .pointer (some ⟨c.PL, 0, none⟩) := slot_of (hprev 1 (by decide)) rfl
            refine .inl ⟨want_none rfl, ?_⟩
            refine step_of_run (v := .pointer (some ⟨c.PL, 17, none⟩)) (w' := _) ?_ ⟨rfl, _, rfl, (fun h => by cases h), rfl⟩
            simp [execOp, go_sem, d1, cYI4, funcNe56]
          · have hw1 : w1 = w4 := hSt
            subst hw1
            have d2 : U[54]?.getD undef = .pointer (some ⟨c.PL, 17, none⟩) := slot_of (hprev 2 (by decide)) rfl
            refine .inl ⟨want_none rfl, ?_⟩
            refine step_of_run (v := .func (.func 14) #[] #[.pointer (some ⟨Y, 0, none⟩), .pointer (some ⟨c.L, 0, none⟩), .pointer (some ⟨S, 0, none⟩)]) (w' := _) ?_ ⟨rfl, _, rfl, (fun h => by cases h), rfl⟩
            simp [execOp, go_sem, d2, cYI4, funcNe56]
          · have hw1 : w1 = w4 := hSt
            subst hw1
            have d3 : U[55]?.getD undef = .func (.func 14) #[] #[.pointer (some ⟨Y, 0, none⟩), .pointer (some ⟨c.L, 0, none⟩), .pointer (some ⟨S, 0, none⟩)] := slot_of (hprev 3 (by decide)) rfl
            refine .inl ⟨want_none rfl, ?_⟩
            refine step_of_run (v := .bool true) (w' := _) ?_ ⟨rfl, _, rfl, (fun h => by cases h), rfl⟩
            simp [execOp, go_sem, d3, cYI4, funcNe56]
          · have hw1 : w1 = w4 := hSt
            subst hw1
            have d4 : U[56]?.getD undef = .bool true := slot_of (hprev 4 (by decide)) rfl
            refine .inl ⟨want_none rfl, ?_⟩
            refine step_of_run (v := .bool true) (w' := _) ?_ ⟨rfl, _, rfl, (fun h => by cases h), rfl⟩
            simp [execOp, go_sem, d4, cYI4, funcNe56]
          · have hw1 : w1 = w4 := hSt
            subst hw1
            have hx0 : U[0]?.getD undef = .pointer (some ⟨c.PL, 0, none⟩) := kept_of hK 0 (by decide) (by assumption)
            refine .inl ⟨want_of (d := 57) rfl rfl (by omega) (slot_of (hprev 5 (by decide)) rfl), ?_⟩
            refine step_of_run (v := .pointer (some ⟨c.PL, 0, none⟩)) (w' := _) ?_ ⟨rfl, _, rfl, (fun h => by cases h), rfl⟩
            simp [execOp, go_sem, hx0, cYI4, funcNe56]
          · have hw1 : w1 = w4 := hSt
            subst hw1
            have d6 : U[58]?.getD undef = .pointer (some ⟨c.PL, 0, none⟩) := slot_of (hprev 6 (by decide)) rfl
            refine .inl ⟨want_of (d := 57) rfl rfl (by omega) (slot_of (hprev 5 (by decide)) rfl), ?_⟩
            refine step_of_run (v := .pointer (some ⟨c.PL, 0, none⟩)) (w' := _) ?_ ⟨rfl, _, rfl, (fun h => by cases h), rfl⟩
            simp [execOp, go_sem, d6, cYI4, funcNe56]
          · have hw1 : w1 = w4 := hSt
            subst hw1
            have d7 : U[59]?.getD undef = .pointer (some ⟨c.PL, 0, none⟩) := slot_of (hprev 7 (by decide)) rfl
            refine .inl ⟨want_of (d := 57) rfl rfl (by omega) (slot_of (hprev 5 (by decide)) rfl), ?_⟩
            refine step_of_run (v := .pointer (some ⟨c.PL, 17, none⟩)) (w' := _) ?_ ⟨rfl, _, rfl, (fun h => by cases h), rfl⟩
            simp [execOp, go_sem, d7, cYI4, funcNe56]
          · have hw1 : w1 = w4 := hSt
            subst hw1
            have d8 : U[60]?.getD undef = .pointer (some ⟨c.PL, 17, none⟩) := slot_of (hprev 8 (by decide)) rfl
            refine .inl ⟨want_of (d := 57) rfl rfl (by omega) (slot_of (hprev 5 (by decide)) rfl), ?_⟩
            refine step_of_run (v := .func (.func 14) #[] #[.pointer (some ⟨Y, 0, none⟩), .pointer (some ⟨c.L, 0, none⟩), .pointer (some ⟨S, 0, none⟩)]) (w' := _) ?_ ⟨rfl, _, rfl, (fun h => by cases h), rfl⟩
            simp [execOp, go_sem, d8, cYI4, funcNe56]
          · have hw1 : w1 = w4 := hSt
            subst hw1
            have hx6 : U[6]?.getD undef = .int .i64 q := kept_of hK 6 (by decide) (by assumption)
            refine .inl ⟨want_of (d := 57) rfl rfl (by omega) (slot_of (hprev 5 (by decide)) rfl), ?_⟩
            refine step_of_run (v := .int .i64 q) (w' := _) ?_ ⟨rfl, _, rfl, (fun h => by cases h), rfl⟩
            simp [execOp, go_sem, hx6, cYI4, funcNe56]
          · have hw1 : w1 = w4 := hSt
            subst hw1
            have hx1 : U[1]?.getD undef = .int .i64 r := kept_of hK 1 (by decide) (by assumption)
            refine .inl ⟨want_of (d := 57) rfl rfl (by omega) (slot_of (hprev 5 (by decide)) rfl), ?_⟩
            refine step_of_run (v := .int .i64 r) (w' := _) ?_ ⟨rfl, _, rfl, (fun h => by cases h), rfl⟩
            simp [execOp, go_sem, hx1, cYI4, funcNe56]
          · have hw1 : w1 = w4 := hSt
            subst hw1
            have hx7 : U[7]?.getD undef = .slice (some ⟨b, 0, none⟩) 1 1 := kept_of hK 7 (by decide) (by assumption)
            refine .inl ⟨want_of (d := 57) rfl rfl (by omega) (slot_of (hprev 5 (by decide)) rfl), ?_⟩
            refine step_of_run (v := .slice (some ⟨b, 0, none⟩) 1 1) (w' := _) ?_ ⟨rfl, _, rfl, (fun h => by cases h), rfl⟩
            simp [execOp, go_sem, hx7, cYI4, funcNe56]
          · have hw1 : w1 = w4 := hSt
            subst hw1
            have d10 : U[62]?.getD undef = .int .i64 q := slot_of (hprev 10 (by decide)) rfl
            have d11 : U[63]?.getD undef = .int .i64 r := slot_of (hprev 11 (by decide)) rfl
            have d12 : U[64]?.getD undef = .slice (some ⟨b, 0, none⟩) 1 1 := slot_of (hprev 12 (by decide)) rfl
            refine .inl ⟨want_of (d := 57) rfl rfl (by omega) (slot_of (hprev 5 (by decide)) rfl), ?_⟩
            refine step_of_run (v := .agg #[.int .i64 q, .int .i64 r, .slice (some ⟨b, 0, none⟩) 1 1]) (w' := _) ?_ ⟨rfl, _, rfl, (fun h => by cases h), rfl⟩
            simp [execOp, go_sem, d10, d11, d12, cYI4, funcNe56]
          · have hw1 : w1 = w4 := hSt
            subst hw1
            have d9 : U[61]?.getD undef = .func (.func 14) #[] #[.pointer (some ⟨Y, 0, none⟩), .pointer (some ⟨c.L, 0, none⟩), .pointer (some ⟨S, 0, none⟩)] := slot_of (hprev 9 (by decide)) rfl
            have d13 : U[65]?.getD undef = .agg #[.int .i64 q, .int .i64 r, .slice (some ⟨b, 0, none⟩) 1 1] := slot_of (hprev 13 (by decide)) rfl
            refine .inl ⟨want_of (d := 57) rfl rfl (by omega) (slot_of (hprev 5 (by decide)) rfl), ?_⟩
            refine step_of_call (f := 14) (args := #[.agg #[.int .i64 q, .int .i64 r, .slice (some ⟨b, 0, none⟩) 1 1], .pointer (some ⟨Y, 0, none⟩), .pointer (some ⟨c.L, 0, none⟩), .pointer (some ⟨S, 0, none⟩)]) (w' := w1) ?_ ((yieldC c.L c.base ((xs ++ coresL c.cr got r (q - 1)) ++ [-6, (q : Int)]) g2 w1 hap.blog HS4.out.bs HL4.out hlen4 q r (got q) (y + cntC c.cr r (q - 1)) s Y S b (by omega) (by omega) hgq hy4 hs HY4.out hk.by' hYL HSS4.out hk.bs' hSL hSY _ HE4.out rfl hbY).mono ?_)
            · simp [execOp, go_sem, d9, d13]
            · rintro e w9 ⟨rfl, g3, m1, m2, m3, m4⟩
              exact ⟨_, rfl, ⟨g3, m1, m2, m3, m4⟩, _, rfl, (fun h => by cases h), rfl⟩
          · have d14 : U[66]?.getD undef = .bool (decide (y + cntC c.cr r (q - 1) + 1 ≠ s)) := slot_of (hprev 14 (by decide)) rfl
            refine .inl ⟨want_of (d := 57) rfl rfl (by omega) (slot_of (hprev 5 (by decide)) rfl), ?_⟩
            refine step_of_run (v := .bool (!decide (y + cntC c.cr r (q - 1) + 1 ≠ s))) (w' := _) ?_ ⟨hSt, _, rfl, (fun h => by cases h), rfl⟩
            simp [execOp, go_sem, d14, cYI4, funcNe56]
          · have d5 : U[57]?.getD undef = .bool true := slot_of (hprev 5 (by decide)) rfl
            have d15 : U[67]?.getD undef = .bool (!decide (y + cntC c.cr r (q - 1) + 1 ≠ s)) := slot_of (hprev 15 (by decide)) rfl
            refine .inl ⟨want_none rfl, ?_⟩
            refine step_of_run (v := .bool (!decide (y + cntC c.cr r (q - 1) + 1 ≠ s))) (w' := _) ?_ ⟨hSt, _, rfl, (fun h => by cases h), rfl⟩
            simp [execOp, go_sem, d5, d15, cYI4, funcNe56]
        · intro V w5 hSt hV2 hK hall
          have hP : ∃ g3, LogAt w5 c.base c.L ((xs ++ coresL c.cr got r (q - 1)) ++ [-6, (q : Int)] ++ [-7, (q : Int), (r : Int), (got q : Int)]) g3 ∧ NewG w4 g2 g3 ∧ Row w5 Y 3 1 (fun _ => .int .i64 ((y + cntC c.cr r (q - 1) + 1 : Nat) : Int)) ∧ Only (fun b => LogS c.L g2 b ∨ b = Y) w4 w5 := hSt
          obtain ⟨g3, m1, m2, m3, m4⟩ := hP
          have d0 : V[0]'(by omega) = .pointer (some ⟨c.PL, 0, none⟩) := at_of _ (kept_of hK 0 (by decide) v0)
          have d1 : V[1]'(by omega) = .int .i64 r := at_of _ (kept_of hK 1 (by decide) v1)
          have d5 : V[5]'(by omega) = .int .i64 c.n := at_of _ (kept_of hK 5 (by decide) v5)
          have d6 : V[6]'(by omega) = .int .i64 q := at_of _ (kept_of hK 6 (by decide) v6)
          have b68 : V[68]?.getD undef = .bool (!decide (y + cntC c.cr r (q - 1) + 1 ≠ s)) := slot_of (hall 16 (by decide)) rfl
          have hcnt : cntC c.cr r q = cntC c.cr r (q - 1) + 1 := by
            have : cntC c.cr r (q - 1 + 1) = cntC c.cr r (q - 1) + 1 := by rw [cntC, e1, hcc]; rfl
            rwa [e1] at this
          have hcl : coresL c.cr got r q = coresL c.cr got r (q - 1) ++ [-6, (q : Int), -7, (q : Int), (r : Int), (got q : Int)] := by
            have : coresL c.cr got r (q - 1 + 1) = coresL c.cr got r (q - 1) ++ [-6, (q : Int), -7, (q : Int), (r : Int), (got q : Int)] := by rw [coresL_succ, e1, hcc]; rfl
            rwa [e1] at this
          have hstk : stopK c.cr r y s q = if decide (y + cntC c.cr r (q - 1) + 1 ≠ s) then none else some q := by
            have : stopK c.cr r y s (q - 1 + 1) = if decide (y + cntC c.cr r (q - 1) + 1 ≠ s) then none else some q := by
              rw [stopK, HNO.out, e1]
              simp only [hcc, hcnt, true_and]
              by_cases h : y + cntC c.cr r (q - 1) + 1 = s
              · rw [if_pos (by omega), if_neg (by simp [h])]
              · rw [if_neg (by omega), if_pos (by simp [h])]
            rwa [e1] at this
          have hm1 : LogAt w5 c.base c.L (xs ++ coresL c.cr got r q) g3 := by
            rw [hcl]
            simpa [List.append_assoc] using m1
          have hm3 : Row w5 Y 3 1 (fun _ => .int .i64 ((y + cntC c.cr r q : Nat) : Int)) := by
            rw [hcnt]
            exact m3
          have hco5 : Cores w5 c.base CO N g3 (coreU c got r q cm) := by
            refine ⟨_, HM4.out.only m4 (fun h => ?_), fun x hx => ?_⟩
            · rcases h with (h | h) | h
              · exact hap.ne hk.co hap.log (by decide) h
              · have := L1.out.block_lt h
                have := hk.bco
                omega
              · exact hap.ne hk.co hk.y (by decide) h
            · have hcu := coreU_new c got r q cm hq1 hcc x
              rw [show q + 1 - 1 = q by omega, ← HJM.out, ← HJ.out] at hcu
              rw [hcu]
              by_cases ex : x = j
              · simp only [ex, if_true]
                refine ⟨b, rfl, by have := HSZ.out.bs; omega, fun e => ?_, (HE4.out.only m4 (fun h => ?_)).ext fun k hk => rfl⟩
                · rcases m2 b e with e | e
                  · exact L3.out b e rfl
                  · have := HE4.out.lt
                    omega
                · rcases h with (h | h) | h
                  · have := hap.blog
                    have := HSZ.out.bs
                    omega
                  · exact L3.out b h rfl
                  · exact hbY h
              · simp only [ex, if_false]
                refine ((HM2.out x hx).only HO4.out (NewG.refl _ _) (fun b' hb' e => ?_)).only m4 m2 (fun b' hb' h => ?_)
                · have := hk.bco
                  omega
                · rcases h with (h | h) | h
                  · have := hap.blog
                    omega
                  · exact h
                  · have := hk.by'
                    omega
          have hon : Only (fun b => LogS c.L g b ∨ b = CO ∨ b = Y) w w5 := by
            refine ((HBZ.out.trans' (Only.trans' (L4.out.mono (S' := fun b => LogS c.L g1 b ∨ b = CO) (fun _ _ h => .inl h)) HO4.out (fun _ _ h => .inr h)) (fun x hx h => ?_))).trans' m4 (fun x hx h => ?_)
            · rcases h with (h | h) | h
              · exact .inl (.inl h)
              · rcases K2.out x h with e | e
                · exact .inl (.inr e)
                · omega
              · exact .inr (.inl h)
            · rcases h with (h | h) | h
              · exact .inl (.inl h)
              · rcases (K2.out.trans L2.out HBZ.out.size) x h with e | e
                · exact .inl (.inr e)
                · omega
              · exact .inr (.inr h)
          have hng : NewG w g g3 := (K2.out.trans L2.out HBZ.out.size).trans m2 (by have := HBZ.out.size; have := L4.out.size; have := HO4.out.size; omega)
          have M1 := hidP hm1
          have M3 := hidP hm3
          have MC := hidP hco5
          have MO := hidP hon
          have MN := hidP hng
          have MS := hidP hstk
          clear hall hK m1 m2 m3 m4 hSt hm1 hm3 hco5 hon hng hstk v0 v1 v5 v6 v7 hap hk cYI4
          go_upto_if 68 with fail
          refine wp_cond_at (!decide (y + cntC c.cr r (q - 1) + 1 ≠ s)) (by simpa [Act.eval] using b68) (fun hc => ?_) (fun hc => ?_)
          · have hst : stopK c.cr r y s q = some q := by
              rw [MS.out, if_neg (by simpa using hc)]
            have hsn := stopK_mono c.cr r y s hst c.n hqn
            have HSN := hidP hsn
            clear hsn hst hc
            go_wp2_with fail
            have hsn := HSN.out
            refine bodyPost_ret (v := .bool false) (by simp [results, Yba.results28, hV2]) rfl ⟨by rw [hsn]; rfl, g3, ?_, MN.out, ?_, ?_, MO.out⟩
            · rw [hsn]
              exact M1.out
            · rw [hsn]
              exact MC.out
            · rw [hsn]
              exact M3.out
          · have hst : stopK c.cr r y s q = none := by
              rw [MS.out, if_pos (by simpa using hc)]
            have HSN := hidP hst
            clear hst hc
            go_wp2_with fail
            first | refine ⟨trivial, k - 1, by omega, ?_⟩ | refine ⟨k - 1, by omega, ?_⟩
            rw [HI.out]
            have e3 : q + 1 - 1 = q := by omega
            exact ⟨q + 1, by omega, by omega, by simp [hV2], by simp [hV2, d0], by simp [hV2, d1], by simp [hV2, d5], by simp [hV2], by rw [e3]; exact HSN.out, g3, by rw [e3]; exact M1.out, MN.out, by rw [e3]; exact MC.out, by rw [e3]; exact M3.out, MO.out⟩
    · have hqn : q - 1 = c.n := by have := of_decide_eq_false h; omega
      clear h
      go_wp2_with fail
      have hno := HNO.out
      rw [hqn] at hno
      refine bodyPost_ret (v := .bool true) (by simp [results, Yba.results28, hT]) rfl ⟨by rw [hno]; rfl, g1, ?_, K2.out, ?_, ?_, K5.out⟩
      · rw [hno]
        have := K1.out
        rwa [hqn] at this
      · rw [hno]
        have := K3.out
        rwa [hqn] at this
      · rw [hno]
        have := K4.out
        rwa [hqn] at this
  · rw [HI.out]
    refine ⟨1, by omega, by omega, rfl, rfl, rfl, rfl, rfl, rfl, g, by simpa [coresL] using HLOG.out, NewG.refl _ _, ?_, by simpa [cntC] using HYY.out, Only.refl⟩
    have e : coreU c got r (1 - 1) cm = cm := by
      funext x
      unfold coreU
      rw [if_neg (by omega)]
    rw [e]
    exact HCO.out
end Go.Proofs.Ybulkcawy
