/-
  giveMessages: every process that completed the round before gives its message.
-/
import Derived.Test.YbulkcawyPlayer
import Derived.Deep.Cut
namespace Go.Proofs.Ybulkcawy
open Go.RowKit
set_option linter.unusedSimpArgs false
set_option linter.unusedVariables false
set_option maxRecDepth 100000
set_option maxHeartbeats 4000000

theorem methMessage (v : Value) (w : World) : (method 251 64 v "Message").run Yba.prog w = .ok (61, v) w := by kernel_rfl
theorem methDecision (v : Value) (w : World) : (method 251 64 v "Decision").run Yba.prog w = .ok (60, v) w := by kernel_rfl
theorem methCore (v : Value) (w : World) : (method 251 64 v "Core").run Yba.prog w = .ok (59, v) w := by kernel_rfl
theorem methObserve (v : Value) (w : World) : (method 251 64 v "Observe").run Yba.prog w = .ok (62, v) w := by kernel_rfl
theorem methReceive (v : Value) (w : World) : (method 251 64 v "Receive").run Yba.prog w = .ok (63, v) w := by kernel_rfl

/-- What the first k processes log when they give their messages of round r1 + 1. -/
def givesL (cr : Nat → Nat) (r1 k : Nat) : List Int := (List.range k).flatMap fun j => if compl cr (j + 1) r1 then [-3, ((j + 1 : Nat) : Int), ((r1 + 1 : Nat) : Int)] else []
theorem givesL_succ (cr : Nat → Nat) (r1 k : Nat) : givesL cr r1 (k + 1) = givesL cr r1 k ++ (if compl cr (k + 1) r1 then [-3, ((k + 1 : Nat) : Int), ((r1 + 1 : Nat) : Int)] else []) := by
  simp [givesL, List.range_succ, List.flatMap_append]
theorem givesL_len (cr : Nat → Nat) (r1 k : Nat) : (givesL cr r1 k).length ≤ 3 * k := by
  induction k with
  | zero => simp [givesL]
  | succ k ih =>
    rw [givesL_succ, List.length_append]
    split <;> simp <;> omega
/-- The messages of round r1 + 1, those of the first k processes anew. -/
def sentM (cr : Nat → Nat) (r1 k : Nat) (ms : Nat → Option Int) (q : Nat) : Option Int :=
  if 1 ≤ q ∧ q ≤ k then (if compl cr q r1 then some ((q : Int) * 100 + ((r1 + 1 : Nat) : Int)) else none) else ms q

theorem Only.logse {w w1 w2 : World} {L X : Nat} {g g1 : Option Nat} (h : Only (fun b => LogS L g b ∨ b = X) w w1) (hn : NewG w g g1) (k : Only (fun b => LogS L g1 b ∨ b = X) w1 w2) : Only (fun b => LogS L g b ∨ b = X) w w2 :=
  h.trans' k fun b hb hs => by
    rcases hs with (hs | hs) | hs
    · exact .inl (.inl hs)
    · rcases hn b hs with e | e
      · exact .inl (.inr e)
      · omega
    · exact .inr hs

theorem gen_frame {P : Program} {cd : Code} {Q : Exit → Act → World → Prop} {w : World} {T : Array Value} (R : Array Value → Prop) (hR : R T) (h : ∀ U, R U → cd.wp P Q ⟨U, []⟩ w) : cd.wp P Q ⟨T, []⟩ w := h T hR

theorem giveMessages (c : Cfg) (role : Nat → Nat) (hap : c.Apart role) (r1 : Nat) (hr : r1 ≤ 100) (got : Nat → Nat) (ms : Nat → Option Int) (xs : List Int) (g : Option Nat) (w : World) (hst : Stat c w) (hp : Procs c w got) (hse : Row w c.SE 20 (c.n + 1) (fun k => msgV (ms k))) (hlog : LogAt w c.base c.L xs g) (hlen : xs.length ≤ 800000) :
    Calls Yba.prog 29 #[.pointer (some ⟨c.PL, 0, none⟩), .int .i64 ((r1 : Int) + 1)] w fun e w' => e = .returned (.tuple #[]) ∧ ∃ g', LogAt w' c.base c.L (xs ++ givesL c.cr r1 c.n) g' ∧ NewG w g g' ∧ Row w' c.SE 20 (c.n + 1) (fun k => msgV (sentM c.cr r1 c.n ms k)) ∧ Only (fun b => LogS c.L g b ∨ b = c.SE) w w' := by
  have hsm := hap.small
  have hSEL : c.SE ≠ c.L := hap.ne hap.se hap.log (by decide)
  have hPLL : c.PL ≠ c.L := hap.ne hap.pl hap.log (by decide)
  have hCL : c.C ≠ c.L := hap.ne hap.cr hap.log (by decide)
  have hPRL : c.PR ≠ c.L := hap.ne hap.pr hap.log (by decide)
  have hSEPL : c.PL ≠ c.SE := hap.ne hap.pl hap.se (by decide)
  have hSEC : c.C ≠ c.SE := hap.ne hap.cr hap.se (by decide)
  have hSEPR : c.PR ≠ c.SE := hap.ne hap.pr hap.se (by decide)
  have hSEAP : ∀ q, c.ap q ≠ c.SE := fun q => hap.ne (hap.ap q) hap.se (by omega)
  have hAPL' : ∀ q, c.ap q ≠ c.L := fun q => hap.ne (hap.ap q) hap.log (by omega)
  have HAP := hidP hap
  have HN := hidP (And.intro hSEPL (And.intro hSEC (And.intro hSEPR (And.intro hSEAP hAPL'))))
  have HST := hidP hst
  have HP := hidP hp
  have HSE := hidP hse
  have HLOG := hidP hlog
  clear hst hp hse hlog hSEPL hSEC hSEPR hSEAP hAPL'
  refine calls_of_wp Yba.func29 rfl ?_
  simp only [Yba.ntmps29, List.size_toArray, List.length_cons, List.length_nil, Nat.reduceAdd, Nat.reduceSub, Array.replicate_succ, Array.replicate_zero, List.push_toArray, List.append_toArray, List.nil_append, List.cons_append]
  have H5 := hidP (And.intro hSEL (And.intro hPLL (And.intro hCL hPRL)))
  clear hSEL hPLL hCL hPRL hap
  go_wp2_with fail
  obtain ⟨I, hI⟩ : ∃ I : Nat → Array Value → World → Prop, I = (fun k T wr => ∃ q, 1 ≤ q ∧ q + k = c.n + 1 ∧ T.size = 43 ∧ T[0]?.getD undef = .pointer (some ⟨c.PL, 0, none⟩) ∧ T[1]?.getD undef = .int .i64 ((r1 : Int) + 1) ∧ T[4]?.getD undef = .int .i64 q ∧
    ∃ g1, LogAt wr c.base c.L (xs ++ givesL c.cr r1 (q - 1)) g1 ∧ NewG w g g1 ∧ Row wr c.SE 20 (c.n + 1) (fun k => msgV (sentM c.cr r1 (q - 1) ms k)) ∧ Only (fun b => LogS c.L g b ∨ b = c.SE) w wr) := ⟨_, rfl⟩
  have HI := hidP hI
  clear hI
  refine wp_loop_n I ?_ c.n _ _ ?_
  · intro k T wr hIk
    rw [HI.out] at hIk
    obtain ⟨q, hq1, hqk, hT, t0, t1, t4, g1, k1, k2, k3, k4⟩ := hIk
    obtain ⟨hSEPL, hSEC, hSEPR, hSEAP, hAPL'⟩ := HN.out
    have hgb : ∀ b, b < c.base → b ≠ c.L → b ≠ c.SE → ¬ (LogS c.L g b ∨ b = c.SE) := fun b hb h1 h2 h => by
      rcases h with (h | h) | h
      · exact h1 h
      · have := HLOG.out.block_lt h
        omega
      · exact h2 h
    have hsr : Stat c wr := HST.out.only k4 (hgb _ HAP.out.bpl H5.out.2.1 hSEPL) (hgb _ HAP.out.bcr H5.out.2.2.1 hSEC) (hgb _ HAP.out.bpr H5.out.2.2.2 hSEPR)
    have hpr : Procs c wr got := HP.out.only k4 (fun q _ _ => hgb _ (HAP.out.bap q) (hAPL' q) (hSEAP q))
    have a0 : T[0]'(by omega) = _ := at_of _ t0
    have a1 : T[1]'(by omega) = _ := at_of _ t1
    have a4 : T[4]'(by omega) = _ := at_of _ t4
    have cN : wr.cell? ⟨c.PL, 1, none⟩ = some (.int .i64 c.n) := hsr.pl.cell 1 (by omega)
    have cSE0 : wr.cell? ⟨c.PL, 12, none⟩ = some (.slice (some ⟨c.SE, 0, none⟩) (c.n + 1) (c.n + 1)) := hsr.pl.cell 12 (by omega)
    have HSR := hidP hsr
    have HPR := hidP hpr
    have K1 := hidP k1
    have K2 := hidP k2
    have K3 := hidP k3
    have K4 := hidP k4
    have H6 := hidP (And.intro hSEPL (And.intro hSEAP hAPL'))
    clear hsr hpr k1 k2 k3 k4 t0 t1 t4 hgb hSEPL hSEC hSEPR hSEAP hAPL'
    go_upto_if 11 with fail
    refine wp_cond_at (decide (q ≤ c.n)) (by simp [Act.eval, hT]) (fun h => ?_) (fun h => ?_)
    · have hqn : q ≤ c.n := of_decide_eq_true h
      clear h
      have i1 : (0 : Int) ≤ (q : Int) := by omega
      have i2 : (q : Int) < (c.n : Int) + 1 := by omega
      have cS := K3.out.cell q (by omega)
      have fS := K3.out.frozen q
      go_upto_region 4 with fail
      obtain ⟨hSEPL, hSEC, hSEPR, hSEAP, hAPL'⟩ := HN.out
      obtain ⟨wn, hwn⟩ : ∃ wn, wn = wr.setCell ⟨c.SE, q, none⟩ .nilIface := ⟨_, rfl⟩
      rw [← hwn]
      have hon : Only (fun b => b = c.SE) wr wn := by rw [hwn]; exact Only.setCell (S := fun b => b = c.SE) Only.refl (p := ⟨c.SE, q, none⟩) (fun _ => rfl) _
      have hsn : Row wn c.SE 20 (c.n + 1) (fun k => if k = q then .nilIface else msgV (sentM c.cr r1 (q - 1) ms k)) := by rw [hwn]; exact K3.out.set q _
      have hstn : Stat c wn := HSR.out.only hon hSEPL hSEC hSEPR
      have hpn : Procs c wn got := HPR.out.only hon (fun q _ _ => hSEAP q)
      have hln : LogAt wn c.base c.L (xs ++ givesL c.cr r1 (q - 1)) g1 := K1.out.only hon (fun h => H5.out.1 h.symm) (fun b hb h => by have := K1.out.block_lt hb; have := HAP.out.bse; omega)
      obtain ⟨fa0, fl, fc, hfa⟩ := HAP.out.fasl
      have f4 : wn.cell? ⟨c.PL, 4, none⟩ = some (.int .i64 c.last) := hstn.pl.cell 4 (by omega)
      have f5 : wn.cell? ⟨c.PL, 5, none⟩ = some (.slice (some ⟨c.C, 0, none⟩) (c.n + 1) (c.n + 1)) := hstn.pl.cell 5 (by omega)
      have f6 : wn.cell? ⟨c.PL, 6, none⟩ = some (.slice (some ⟨c.R, 0, none⟩) (c.n + 1) (c.n + 1)) := hstn.pl.cell 6 (by omega)
      have f7 : wn.cell? ⟨c.PL, 7, none⟩ = some (.slice (some ⟨c.Lo, 0, none⟩) (c.n + 1) (c.n + 1)) := hstn.pl.cell 7 (by omega)
      have f8 : wn.cell? ⟨c.PL, 8, none⟩ = some (.slice fa0 fl fc) := (hstn.pl.cell 8 (by omega)).trans (by rw [← hfa]; rfl)
      have f9 : wn.cell? ⟨c.PL, 9, none⟩ = some (.slice (some ⟨c.LO, 0, none⟩) (c.n + 1) (c.n + 1)) := hstn.pl.cell 9 (by omega)
      have HFA := hidP hfa
      have HSTN := hidP hstn
      have HPN := hidP hpn
      have HLN := hidP hln
      have HSN := hidP hsn
      have HON := hidP hon
      clear hwn hon hsn hstn hpn hln hfa cS fS cN cSE0 hSEPL hSEC hSEPR hSEAP hAPL'
      refine gen_frame (fun U => U.size = 43 ∧ U[0]?.getD undef = .pointer (some ⟨c.PL, 0, none⟩) ∧ U[1]?.getD undef = .int .i64 ((r1 : Int) + 1) ∧ U[4]?.getD undef = .int .i64 q) ⟨by simp [hT], by simp [hT, a0], by simp [hT, a1], by simp [hT, a4]⟩ ?_
      rintro U ⟨hU, u0, u1, u4⟩
      have b0 : U[0]'(by omega) = _ := at_of _ u0
      have b1 : U[1]'(by omega) = _ := at_of _ u1
      have b4 : U[4]'(by omega) = _ := at_of _ u4
      clear u0 u1 u4 a0 a1 a4 hT
      go_upto_if 27 with (go_at_call 24; refine (completes c.last c.n c.C c.R c.Lo c.LO q r1 (.slice fa0 fl fc) ⟨fa0, fl, fc, rfl⟩ c.cr wn HSTN.out.cr hqn).mono ?_; rintro e w2 ⟨rfl, ho⟩)
      have ho2 : ∃ wz, Only (fun _ => False) wn wz ∧ wz = w2 := ⟨w2, ho, rfl⟩
      obtain ⟨wz, hoz, rfl⟩ := ho2
      have HOZ := hidP hoz
      have hap := HAP.out
      have hnl : ∀ b, b < c.base → b ≠ c.L → ¬ LogS c.L g1 b := fun b hb h1 h => by
        rcases h with h | h
        · exact h1 h
        · have := K1.out.block_lt h
          omega
      have HSZ := hidP (HSTN.out.only hoz (fun h => h) (fun h => h) (fun h => h))
      have HPZ := hidP (HPN.out.only hoz (fun _ _ _ h => h))
      have HLZ := hidP (HLN.out.only hoz (fun h => h) (fun _ _ h => h))
      obtain ⟨msz, hmsz⟩ : ∃ msz : Nat → Option Int, msz = fun k => if k = q then none else sentM c.cr r1 (q - 1) ms k := ⟨_, rfl⟩
      have HEZ := hidP ((HSN.out.only hoz (fun h => h)).ext (m' := fun k => msgV (msz k)) (fun k hk => by rw [hmsz]; by_cases e : k = q <;> simp [e, msgV]))
      have HMSZ := hidP hmsz
      have HGX := hidP K4.out
      have hbz : Only (fun b => LogS c.L g b ∨ b = c.SE) w wz := (K4.out.trans' HON.out (fun b _ h => .inr h)).trans' hoz (fun _ _ h => h.elim)
      have HBZ := hidP hbz
      clear hoz ho hmsz hbz f4 f5 f6 f7 f8 f9
      have e1 : q - 1 + 1 = q := by omega
      refine wp_cond_at (compl c.cr q r1) (by simp [Act.eval, hU]) (fun hc => ?_) (fun hc => ?_)
      · refine gen_frame (fun V => V.size = 43 ∧ V[0]?.getD undef = .pointer (some ⟨c.PL, 0, none⟩) ∧ V[1]?.getD undef = .int .i64 ((r1 : Int) + 1) ∧ V[4]?.getD undef = .int .i64 q) ⟨by simp [hU], by simp [hU, b0], by simp [hU, b1], by simp [hU, b4]⟩ ?_
        rintro T3 ⟨hT3, v0, v1, v4⟩
        obtain ⟨hSEL, hPLL, hCL, hPRL⟩ := H5.out
        have hAPL := H6.out.2.2 q
        refine region_chain (by kernel_rfl) _ 43 hT3 [some (.pointer (some ⟨c.PL, 0, none⟩)), some (.pointer (some ⟨c.PL, 0, none⟩)), some (.pointer (some ⟨c.PL, 12, none⟩)), some (.slice (some ⟨c.SE, 0, none⟩) (c.n + 1) (c.n + 1)), some (.int .i64 q), some (.pointer (some ⟨c.PL, 0, none⟩)), some (.pointer (some ⟨c.PL, 0, none⟩)), some (.pointer (some ⟨c.PL, 10, none⟩)), some (.slice (some ⟨c.PR, 0, none⟩) (c.n + 1) (c.n + 1)), some (.int .i64 q), some (.pointer (some ⟨c.PR, q, none⟩)), some (.iface 64 (.pointer (some ⟨c.ap q, 0, none⟩))), some (.int .i64 ((r1 : Int) + 1)), none, none, none] [13, 14, 15] (fun vs w1 => match vs with | [] => w1 = wz.drew | [v] => v = .iface 3 (.int .i64 ((q : Int) * 100 + ((r1 + 1 : Nat) : Int))) ∧ (∃ g2, LogAt w1 c.base c.L ((xs ++ givesL c.cr r1 (q - 1)) ++ [-3, (q : Int), ((r1 + 1 : Nat) : Int)]) g2 ∧ NewG wz g1 g2 ∧ Only (LogS c.L g1) wz w1) | [v, p] => v = .iface 3 (.int .i64 ((q : Int) * 100 + ((r1 + 1 : Nat) : Int))) ∧ p = .pointer (some ⟨c.SE, q, none⟩) ∧ (∃ g2, LogAt w1 c.base c.L ((xs ++ givesL c.cr r1 (q - 1)) ++ [-3, (q : Int), ((r1 + 1 : Nat) : Int)]) g2 ∧ NewG wz g1 g2 ∧ Only (LogS c.L g1) wz w1) | _ => (∃ g2, LogAt w1 c.base c.L ((xs ++ givesL c.cr r1 (q - 1)) ++ [-3, (q : Int), ((r1 + 1 : Nat) : Int)]) g2 ∧ NewG wz g1 g2 ∧ Row w1 c.SE 20 (c.n + 1) (fun k => if k = q then .iface 3 (.int .i64 ((q : Int) * 100 + ((r1 + 1 : Nat) : Int))) else msgV (msz k)) ∧ Only (fun b => LogS c.L g1 b ∨ b = c.SE) wz w1)) (by decide) (by decide) (by decide) (by decide) (by decide) (by decide) ?_ ?_ ?_ rfl
        · intro i hi U vs w1 hia hU hK hSt hanc hdep
          have hi' : i < 16 := hi
          rcases (by omega : i = 0 ∨ i = 1 ∨ i = 2 ∨ i = 3 ∨ i = 4 ∨ i = 5 ∨ i = 6 ∨ i = 7 ∨ i = 8 ∨ i = 9 ∨ i = 10 ∨ i = 11 ∨ i = 12 ∨ i = 13 ∨ i = 14 ∨ i = 15) with rfl | rfl | rfl | rfl | rfl | rfl | rfl | rfl | rfl | rfl | rfl | rfl | rfl | rfl | rfl | rfl
          · have hvl := hanc 1 (by decide) (by decide)
            have hS1 : Stat c w1 := by
              match vs, hSt, hvl with
              | [], h, _ => exact (show w1 = wz.drew from h) ▸ HSZ.out.only (Only.refl (S := fun _ => False)).drew (fun h => h) (fun h => h) (fun h => h)
              | [v], h, _ => obtain ⟨_, g2, _, _, ho⟩ := h; exact HSZ.out.only ho (hnl c.PL hap.bpl hPLL) (hnl c.C hap.bcr hCL) (hnl c.PR hap.bpr hPRL)
            have cSE : w1.cell? ⟨c.PL, 12, none⟩ = some (.slice (some ⟨c.SE, 0, none⟩) (c.n + 1) (c.n + 1)) := hS1.pl.cell 12 (by omega)
            have cPR : w1.cell? ⟨c.PL, 10, none⟩ = some (.slice (some ⟨c.PR, 0, none⟩) (c.n + 1) (c.n + 1)) := hS1.pl.cell 10 (by omega)
            have cAP : w1.cell? ⟨c.PR, q, none⟩ = some (.iface 64 (.pointer (some ⟨c.ap q, 0, none⟩))) := by have := hS1.pr.cell q (by omega); rwa [Cfg.procM, if_neg (by omega)] at this
            have hx0 : U[0]?.getD undef = .pointer (some ⟨c.PL, 0, none⟩) := kept_of hK 0 (by decide) (by assumption)
            refine step_of_run (v := .pointer (some ⟨c.PL, 0, none⟩)) (w' := _) ?_ ⟨rfl, _, rfl, (fun h => by cases h), rfl⟩
            simp [execOp, go_sem, hx0, cSE, cPR, cAP, i1, i2]
          · have hvl := hanc 1 (by decide) (by decide)
            have hS1 : Stat c w1 := by
              match vs, hSt, hvl with
              | [], h, _ => exact (show w1 = wz.drew from h) ▸ HSZ.out.only (Only.refl (S := fun _ => False)).drew (fun h => h) (fun h => h) (fun h => h)
              | [v], h, _ => obtain ⟨_, g2, _, _, ho⟩ := h; exact HSZ.out.only ho (hnl c.PL hap.bpl hPLL) (hnl c.C hap.bcr hCL) (hnl c.PR hap.bpr hPRL)
            have cSE : w1.cell? ⟨c.PL, 12, none⟩ = some (.slice (some ⟨c.SE, 0, none⟩) (c.n + 1) (c.n + 1)) := hS1.pl.cell 12 (by omega)
            have cPR : w1.cell? ⟨c.PL, 10, none⟩ = some (.slice (some ⟨c.PR, 0, none⟩) (c.n + 1) (c.n + 1)) := hS1.pl.cell 10 (by omega)
            have cAP : w1.cell? ⟨c.PR, q, none⟩ = some (.iface 64 (.pointer (some ⟨c.ap q, 0, none⟩))) := by have := hS1.pr.cell q (by omega); rwa [Cfg.procM, if_neg (by omega)] at this
            have d0 : U[28]?.getD undef = .pointer (some ⟨c.PL, 0, none⟩) := slot_of (chain_of (hdep ⟨0, .data⟩ (by simp) rfl (by decide)) rfl) rfl
            refine step_of_run (v := .pointer (some ⟨c.PL, 0, none⟩)) (w' := _) ?_ ⟨rfl, _, rfl, (fun h => by cases h), rfl⟩
            simp [execOp, go_sem, d0, cSE, cPR, cAP, i1, i2]
          · have hvl := hanc 1 (by decide) (by decide)
            have hS1 : Stat c w1 := by
              match vs, hSt, hvl with
              | [], h, _ => exact (show w1 = wz.drew from h) ▸ HSZ.out.only (Only.refl (S := fun _ => False)).drew (fun h => h) (fun h => h) (fun h => h)
              | [v], h, _ => obtain ⟨_, g2, _, _, ho⟩ := h; exact HSZ.out.only ho (hnl c.PL hap.bpl hPLL) (hnl c.C hap.bcr hCL) (hnl c.PR hap.bpr hPRL)
            have cSE : w1.cell? ⟨c.PL, 12, none⟩ = some (.slice (some ⟨c.SE, 0, none⟩) (c.n + 1) (c.n + 1)) := hS1.pl.cell 12 (by omega)
            have cPR : w1.cell? ⟨c.PL, 10, none⟩ = some (.slice (some ⟨c.PR, 0, none⟩) (c.n + 1) (c.n + 1)) := hS1.pl.cell 10 (by omega)
            have cAP : w1.cell? ⟨c.PR, q, none⟩ = some (.iface 64 (.pointer (some ⟨c.ap q, 0, none⟩))) := by have := hS1.pr.cell q (by omega); rwa [Cfg.procM, if_neg (by omega)] at this
            have d1 : U[29]?.getD undef = .pointer (some ⟨c.PL, 0, none⟩) := slot_of (chain_of (hdep ⟨1, .data⟩ (by simp) rfl (by decide)) rfl) rfl
            refine step_of_run (v := .pointer (some ⟨c.PL, 12, none⟩)) (w' := _) ?_ ⟨rfl, _, rfl, (fun h => by cases h), rfl⟩
            simp [execOp, go_sem, d1, cSE, cPR, cAP, i1, i2]
          · have hvl := hanc 1 (by decide) (by decide)
            have hS1 : Stat c w1 := by
              match vs, hSt, hvl with
              | [], h, _ => exact (show w1 = wz.drew from h) ▸ HSZ.out.only (Only.refl (S := fun _ => False)).drew (fun h => h) (fun h => h) (fun h => h)
              | [v], h, _ => obtain ⟨_, g2, _, _, ho⟩ := h; exact HSZ.out.only ho (hnl c.PL hap.bpl hPLL) (hnl c.C hap.bcr hCL) (hnl c.PR hap.bpr hPRL)
            have cSE : w1.cell? ⟨c.PL, 12, none⟩ = some (.slice (some ⟨c.SE, 0, none⟩) (c.n + 1) (c.n + 1)) := hS1.pl.cell 12 (by omega)
            have cPR : w1.cell? ⟨c.PL, 10, none⟩ = some (.slice (some ⟨c.PR, 0, none⟩) (c.n + 1) (c.n + 1)) := hS1.pl.cell 10 (by omega)
            have cAP : w1.cell? ⟨c.PR, q, none⟩ = some (.iface 64 (.pointer (some ⟨c.ap q, 0, none⟩))) := by have := hS1.pr.cell q (by omega); rwa [Cfg.procM, if_neg (by omega)] at this
            have d2 : U[30]?.getD undef = .pointer (some ⟨c.PL, 12, none⟩) := slot_of (chain_of (hdep ⟨2, .data⟩ (by simp) rfl (by decide)) rfl) rfl
            refine step_of_run (v := .slice (some ⟨c.SE, 0, none⟩) (c.n + 1) (c.n + 1)) (w' := _) ?_ ⟨rfl, _, rfl, (fun h => by cases h), rfl⟩
            simp [execOp, go_sem, d2, cSE, cPR, cAP, i1, i2]
          · have hvl := hanc 1 (by decide) (by decide)
            have hS1 : Stat c w1 := by
              match vs, hSt, hvl with
              | [], h, _ => exact (show w1 = wz.drew from h) ▸ HSZ.out.only (Only.refl (S := fun _ => False)).drew (fun h => h) (fun h => h) (fun h => h)
              | [v], h, _ => obtain ⟨_, g2, _, _, ho⟩ := h; exact HSZ.out.only ho (hnl c.PL hap.bpl hPLL) (hnl c.C hap.bcr hCL) (hnl c.PR hap.bpr hPRL)
            have cSE : w1.cell? ⟨c.PL, 12, none⟩ = some (.slice (some ⟨c.SE, 0, none⟩) (c.n + 1) (c.n + 1)) := hS1.pl.cell 12 (by omega)
            have cPR : w1.cell? ⟨c.PL, 10, none⟩ = some (.slice (some ⟨c.PR, 0, none⟩) (c.n + 1) (c.n + 1)) := hS1.pl.cell 10 (by omega)
            have cAP : w1.cell? ⟨c.PR, q, none⟩ = some (.iface 64 (.pointer (some ⟨c.ap q, 0, none⟩))) := by have := hS1.pr.cell q (by omega); rwa [Cfg.procM, if_neg (by omega)] at this
            have hx4 : U[4]?.getD undef = .int .i64 q := kept_of hK 4 (by decide) (by assumption)
            refine step_of_run (v := .int .i64 q) (w' := _) ?_ ⟨rfl, _, rfl, (fun h => by cases h), rfl⟩
            simp [execOp, go_sem, hx4, cSE, cPR, cAP, i1, i2]
          · have hvl := hanc 1 (by decide) (by decide)
            have hS1 : Stat c w1 := by
              match vs, hSt, hvl with
              | [], h, _ => exact (show w1 = wz.drew from h) ▸ HSZ.out.only (Only.refl (S := fun _ => False)).drew (fun h => h) (fun h => h) (fun h => h)
              | [v], h, _ => obtain ⟨_, g2, _, _, ho⟩ := h; exact HSZ.out.only ho (hnl c.PL hap.bpl hPLL) (hnl c.C hap.bcr hCL) (hnl c.PR hap.bpr hPRL)
            have cSE : w1.cell? ⟨c.PL, 12, none⟩ = some (.slice (some ⟨c.SE, 0, none⟩) (c.n + 1) (c.n + 1)) := hS1.pl.cell 12 (by omega)
            have cPR : w1.cell? ⟨c.PL, 10, none⟩ = some (.slice (some ⟨c.PR, 0, none⟩) (c.n + 1) (c.n + 1)) := hS1.pl.cell 10 (by omega)
            have cAP : w1.cell? ⟨c.PR, q, none⟩ = some (.iface 64 (.pointer (some ⟨c.ap q, 0, none⟩))) := by have := hS1.pr.cell q (by omega); rwa [Cfg.procM, if_neg (by omega)] at this
            have hx0 : U[0]?.getD undef = .pointer (some ⟨c.PL, 0, none⟩) := kept_of hK 0 (by decide) (by assumption)
            refine step_of_run (v := .pointer (some ⟨c.PL, 0, none⟩)) (w' := _) ?_ ⟨rfl, _, rfl, (fun h => by cases h), rfl⟩
            simp [execOp, go_sem, hx0, cSE, cPR, cAP, i1, i2]
          · have hvl := hanc 1 (by decide) (by decide)
            have hS1 : Stat c w1 := by
              match vs, hSt, hvl with
              | [], h, _ => exact (show w1 = wz.drew from h) ▸ HSZ.out.only (Only.refl (S := fun _ => False)).drew (fun h => h) (fun h => h) (fun h => h)
              | [v], h, _ => obtain ⟨_, g2, _, _, ho⟩ := h; exact HSZ.out.only ho (hnl c.PL hap.bpl hPLL) (hnl c.C hap.bcr hCL) (hnl c.PR hap.bpr hPRL)
            have cSE : w1.cell? ⟨c.PL, 12, none⟩ = some (.slice (some ⟨c.SE, 0, none⟩) (c.n + 1) (c.n + 1)) := hS1.pl.cell 12 (by omega)
            have cPR : w1.cell? ⟨c.PL, 10, none⟩ = some (.slice (some ⟨c.PR, 0, none⟩) (c.n + 1) (c.n + 1)) := hS1.pl.cell 10 (by omega)
            have cAP : w1.cell? ⟨c.PR, q, none⟩ = some (.iface 64 (.pointer (some ⟨c.ap q, 0, none⟩))) := by have := hS1.pr.cell q (by omega); rwa [Cfg.procM, if_neg (by omega)] at this
            have d5 : U[33]?.getD undef = .pointer (some ⟨c.PL, 0, none⟩) := slot_of (chain_of (hdep ⟨5, .data⟩ (by simp) rfl (by decide)) rfl) rfl
            refine step_of_run (v := .pointer (some ⟨c.PL, 0, none⟩)) (w' := _) ?_ ⟨rfl, _, rfl, (fun h => by cases h), rfl⟩
            simp [execOp, go_sem, d5, cSE, cPR, cAP, i1, i2]
          · have hvl := hanc 1 (by decide) (by decide)
            have hS1 : Stat c w1 := by
              match vs, hSt, hvl with
              | [], h, _ => exact (show w1 = wz.drew from h) ▸ HSZ.out.only (Only.refl (S := fun _ => False)).drew (fun h => h) (fun h => h) (fun h => h)
              | [v], h, _ => obtain ⟨_, g2, _, _, ho⟩ := h; exact HSZ.out.only ho (hnl c.PL hap.bpl hPLL) (hnl c.C hap.bcr hCL) (hnl c.PR hap.bpr hPRL)
            have cSE : w1.cell? ⟨c.PL, 12, none⟩ = some (.slice (some ⟨c.SE, 0, none⟩) (c.n + 1) (c.n + 1)) := hS1.pl.cell 12 (by omega)
            have cPR : w1.cell? ⟨c.PL, 10, none⟩ = some (.slice (some ⟨c.PR, 0, none⟩) (c.n + 1) (c.n + 1)) := hS1.pl.cell 10 (by omega)
            have cAP : w1.cell? ⟨c.PR, q, none⟩ = some (.iface 64 (.pointer (some ⟨c.ap q, 0, none⟩))) := by have := hS1.pr.cell q (by omega); rwa [Cfg.procM, if_neg (by omega)] at this
            have d6 : U[34]?.getD undef = .pointer (some ⟨c.PL, 0, none⟩) := slot_of (chain_of (hdep ⟨6, .data⟩ (by simp) rfl (by decide)) rfl) rfl
            refine step_of_run (v := .pointer (some ⟨c.PL, 10, none⟩)) (w' := _) ?_ ⟨rfl, _, rfl, (fun h => by cases h), rfl⟩
            simp [execOp, go_sem, d6, cSE, cPR, cAP, i1, i2]
          · have hvl := hanc 1 (by decide) (by decide)
            have hS1 : Stat c w1 := by
              match vs, hSt, hvl with
              | [], h, _ => exact (show w1 = wz.drew from h) ▸ HSZ.out.only (Only.refl (S := fun _ => False)).drew (fun h => h) (fun h => h) (fun h => h)
              | [v], h, _ => obtain ⟨_, g2, _, _, ho⟩ := h; exact HSZ.out.only ho (hnl c.PL hap.bpl hPLL) (hnl c.C hap.bcr hCL) (hnl c.PR hap.bpr hPRL)
            have cSE : w1.cell? ⟨c.PL, 12, none⟩ = some (.slice (some ⟨c.SE, 0, none⟩) (c.n + 1) (c.n + 1)) := hS1.pl.cell 12 (by omega)
            have cPR : w1.cell? ⟨c.PL, 10, none⟩ = some (.slice (some ⟨c.PR, 0, none⟩) (c.n + 1) (c.n + 1)) := hS1.pl.cell 10 (by omega)
            have cAP : w1.cell? ⟨c.PR, q, none⟩ = some (.iface 64 (.pointer (some ⟨c.ap q, 0, none⟩))) := by have := hS1.pr.cell q (by omega); rwa [Cfg.procM, if_neg (by omega)] at this
            have d7 : U[35]?.getD undef = .pointer (some ⟨c.PL, 10, none⟩) := slot_of (chain_of (hdep ⟨7, .data⟩ (by simp) rfl (by decide)) rfl) rfl
            refine step_of_run (v := .slice (some ⟨c.PR, 0, none⟩) (c.n + 1) (c.n + 1)) (w' := _) ?_ ⟨rfl, _, rfl, (fun h => by cases h), rfl⟩
            simp [execOp, go_sem, d7, cSE, cPR, cAP, i1, i2]
          · have hvl := hanc 1 (by decide) (by decide)
            have hS1 : Stat c w1 := by
              match vs, hSt, hvl with
              | [], h, _ => exact (show w1 = wz.drew from h) ▸ HSZ.out.only (Only.refl (S := fun _ => False)).drew (fun h => h) (fun h => h) (fun h => h)
              | [v], h, _ => obtain ⟨_, g2, _, _, ho⟩ := h; exact HSZ.out.only ho (hnl c.PL hap.bpl hPLL) (hnl c.C hap.bcr hCL) (hnl c.PR hap.bpr hPRL)
            have cSE : w1.cell? ⟨c.PL, 12, none⟩ = some (.slice (some ⟨c.SE, 0, none⟩) (c.n + 1) (c.n + 1)) := hS1.pl.cell 12 (by omega)
            have cPR : w1.cell? ⟨c.PL, 10, none⟩ = some (.slice (some ⟨c.PR, 0, none⟩) (c.n + 1) (c.n + 1)) := hS1.pl.cell 10 (by omega)
            have cAP : w1.cell? ⟨c.PR, q, none⟩ = some (.iface 64 (.pointer (some ⟨c.ap q, 0, none⟩))) := by have := hS1.pr.cell q (by omega); rwa [Cfg.procM, if_neg (by omega)] at this
            have hx4 : U[4]?.getD undef = .int .i64 q := kept_of hK 4 (by decide) (by assumption)
            refine step_of_run (v := .int .i64 q) (w' := _) ?_ ⟨rfl, _, rfl, (fun h => by cases h), rfl⟩
            simp [execOp, go_sem, hx4, cSE, cPR, cAP, i1, i2]
          · have hvl := hanc 1 (by decide) (by decide)
            have hS1 : Stat c w1 := by
              match vs, hSt, hvl with
              | [], h, _ => exact (show w1 = wz.drew from h) ▸ HSZ.out.only (Only.refl (S := fun _ => False)).drew (fun h => h) (fun h => h) (fun h => h)
              | [v], h, _ => obtain ⟨_, g2, _, _, ho⟩ := h; exact HSZ.out.only ho (hnl c.PL hap.bpl hPLL) (hnl c.C hap.bcr hCL) (hnl c.PR hap.bpr hPRL)
            have cSE : w1.cell? ⟨c.PL, 12, none⟩ = some (.slice (some ⟨c.SE, 0, none⟩) (c.n + 1) (c.n + 1)) := hS1.pl.cell 12 (by omega)
            have cPR : w1.cell? ⟨c.PL, 10, none⟩ = some (.slice (some ⟨c.PR, 0, none⟩) (c.n + 1) (c.n + 1)) := hS1.pl.cell 10 (by omega)
            have cAP : w1.cell? ⟨c.PR, q, none⟩ = some (.iface 64 (.pointer (some ⟨c.ap q, 0, none⟩))) := by have := hS1.pr.cell q (by omega); rwa [Cfg.procM, if_neg (by omega)] at this
            have d8 : U[36]?.getD undef = .slice (some ⟨c.PR, 0, none⟩) (c.n + 1) (c.n + 1) := slot_of (chain_of (hdep ⟨8, .data⟩ (by simp) rfl (by decide)) rfl) rfl
            have d9 : U[37]?.getD undef = .int .i64 q := slot_of (chain_of (hdep ⟨9, .data⟩ (by simp) rfl (by decide)) rfl) rfl
            refine step_of_run (v := .pointer (some ⟨c.PR, q, none⟩)) (w' := _) ?_ ⟨rfl, _, rfl, (fun h => by cases h), rfl⟩
            simp [execOp, go_sem, d8, d9, cSE, cPR, cAP, i1, i2]
          · have hvl := hanc 1 (by decide) (by decide)
            have hS1 : Stat c w1 := by
              match vs, hSt, hvl with
              | [], h, _ => exact (show w1 = wz.drew from h) ▸ HSZ.out.only (Only.refl (S := fun _ => False)).drew (fun h => h) (fun h => h) (fun h => h)
              | [v], h, _ => obtain ⟨_, g2, _, _, ho⟩ := h; exact HSZ.out.only ho (hnl c.PL hap.bpl hPLL) (hnl c.C hap.bcr hCL) (hnl c.PR hap.bpr hPRL)
            have cSE : w1.cell? ⟨c.PL, 12, none⟩ = some (.slice (some ⟨c.SE, 0, none⟩) (c.n + 1) (c.n + 1)) := hS1.pl.cell 12 (by omega)
            have cPR : w1.cell? ⟨c.PL, 10, none⟩ = some (.slice (some ⟨c.PR, 0, none⟩) (c.n + 1) (c.n + 1)) := hS1.pl.cell 10 (by omega)
            have cAP : w1.cell? ⟨c.PR, q, none⟩ = some (.iface 64 (.pointer (some ⟨c.ap q, 0, none⟩))) := by have := hS1.pr.cell q (by omega); rwa [Cfg.procM, if_neg (by omega)] at this
            have d10 : U[38]?.getD undef = .pointer (some ⟨c.PR, q, none⟩) := slot_of (chain_of (hdep ⟨10, .data⟩ (by simp) rfl (by decide)) rfl) rfl
            refine step_of_run (v := .iface 64 (.pointer (some ⟨c.ap q, 0, none⟩))) (w' := _) ?_ ⟨rfl, _, rfl, (fun h => by cases h), rfl⟩
            simp [execOp, go_sem, d10, cSE, cPR, cAP, i1, i2]
          · have hvl := hanc 1 (by decide) (by decide)
            have hS1 : Stat c w1 := by
              match vs, hSt, hvl with
              | [], h, _ => exact (show w1 = wz.drew from h) ▸ HSZ.out.only (Only.refl (S := fun _ => False)).drew (fun h => h) (fun h => h) (fun h => h)
              | [v], h, _ => obtain ⟨_, g2, _, _, ho⟩ := h; exact HSZ.out.only ho (hnl c.PL hap.bpl hPLL) (hnl c.C hap.bcr hCL) (hnl c.PR hap.bpr hPRL)
            have cSE : w1.cell? ⟨c.PL, 12, none⟩ = some (.slice (some ⟨c.SE, 0, none⟩) (c.n + 1) (c.n + 1)) := hS1.pl.cell 12 (by omega)
            have cPR : w1.cell? ⟨c.PL, 10, none⟩ = some (.slice (some ⟨c.PR, 0, none⟩) (c.n + 1) (c.n + 1)) := hS1.pl.cell 10 (by omega)
            have cAP : w1.cell? ⟨c.PR, q, none⟩ = some (.iface 64 (.pointer (some ⟨c.ap q, 0, none⟩))) := by have := hS1.pr.cell q (by omega); rwa [Cfg.procM, if_neg (by omega)] at this
            have hx1 : U[1]?.getD undef = .int .i64 ((r1 : Int) + 1) := kept_of hK 1 (by decide) (by assumption)
            refine step_of_run (v := .int .i64 ((r1 : Int) + 1)) (w' := _) ?_ ⟨rfl, _, rfl, (fun h => by cases h), rfl⟩
            simp [execOp, go_sem, hx1, cSE, cPR, cAP, i1, i2]
          · exact absurd (by decide) hia
          · exact absurd (by decide) hia
          · exact absurd (by decide) hia
        · intro j hj hi U vs w1 hlen hU hK hSt hdep hprev
          have hj' : j < 3 := hj
          rcases (by omega : j = 0 ∨ j = 1 ∨ j = 2) with rfl | rfl | rfl
          · obtain rfl : vs = [] := List.eq_nil_of_length_eq_zero hlen
            have d11 : U[39]?.getD undef = .iface 64 (.pointer (some ⟨c.ap q, 0, none⟩)) := slot_of (chain_of (hdep ⟨11, .data⟩ (by simp) rfl (by decide)) rfl) rfl
            have d12 : U[40]?.getD undef = .int .i64 ((r1 : Int) + 1) := slot_of (chain_of (hdep ⟨12, .data⟩ (by simp) rfl (by decide)) rfl) rfl
            have hw1 : w1 = wz.drew := hSt
            subst hw1
            have hal : Only (fun _ => False) wz wz.drew := Only.refl.drew
            refine step_of_call (f := 61) (args := #[.pointer (some ⟨c.ap q, 0, none⟩), .int .i64 ((r1 : Int) + 1)]) (w' := wz.drew) ?_ ?_
            · simp [execOp, go_sem, methMessage, d11, d12]
            · have hmsg := message (r1 + 1) (by omega) (c.ap q) c.L c.base q (c.dec q) (got q) (xs ++ givesL c.cr r1 (q - 1)) g1 wz.drew ((HPZ.out q hq1 hqn).drew) hAPL (hap.bap q) hap.blog HSZ.out.bs (HLZ.out.only hal (fun h => h) (fun _ _ h => h)) (by have := givesL_len c.cr r1 (q - 1); simp; omega) (by omega)
              rw [show (((r1 + 1 : Nat) : Int)) = (r1 : Int) + 1 by simp] at hmsg
              refine hmsg.mono ?_
              rintro e w9 ⟨rfl, g2, l1, l2, l3⟩
              exact ⟨_, rfl, _, rfl, (fun h => by cases h), by simp, g2, by simpa using l1, l2, (hal.mono (fun _ _ h => h.elim)).trans' l3 (fun _ _ h => h)⟩
          · obtain ⟨v0, rfl⟩ : ∃ v0, vs = [v0] := by
              match vs, hlen with | [v0], _ => exact ⟨v0, rfl⟩
            have p0 : U[41]?.getD undef = v0 := slot_of (hprev 0 (by decide)) rfl
            have d3 : U[31]?.getD undef = .slice (some ⟨c.SE, 0, none⟩) (c.n + 1) (c.n + 1) := slot_of (chain_of (hdep ⟨3, .data⟩ (by simp) rfl (by decide)) rfl) rfl
            have d4 : U[32]?.getD undef = .int .i64 q := slot_of (chain_of (hdep ⟨4, .data⟩ (by simp) rfl (by decide)) rfl) rfl
            obtain ⟨hv, hP⟩ := hSt
            refine step_of_run (v := .pointer (some ⟨c.SE, q, none⟩)) (w' := w1) ?_ ⟨_, rfl, (fun h => by cases h), hv, rfl, hP⟩
            simp [execOp, go_sem, i1, i2, d3, d4, p0]
          · obtain ⟨v0, v1, rfl⟩ : ∃ v0 v1, vs = [v0, v1] := by
              match vs, hlen with | [v0, v1], _ => exact ⟨v0, v1, rfl⟩
            have p0 : U[41]?.getD undef = v0 := slot_of (hprev 0 (by decide)) rfl
            have p1 : U[42]?.getD undef = v1 := slot_of (hprev 1 (by decide)) rfl
            obtain ⟨rfl, rfl, g2, l1, l2, l3⟩ := hSt
            have hse1 : Row w1 c.SE 20 (c.n + 1) (fun k => msgV (msz k)) := HEZ.out.only l3 (hnl c.SE hap.bse hSEL)
            have cS := hse1.cell q (by omega)
            have fS := hse1.frozen q
            refine step_of_skip (w' := w1.setCell ⟨c.SE, q, none⟩ (.iface 3 (.int .i64 ((q : Int) * 100 + ((r1 + 1 : Nat) : Int))))) ?_ ⟨undef, rfl, (fun _ => rfl), g2, ?_, l2, hse1.set q _, ?_⟩
            · simp [execOp, go_sem, cS, fS, p0, p1]
            · exact l1.only (Only.setCell (S := fun b => b = c.SE) Only.refl (p := ⟨c.SE, q, none⟩) (fun _ => rfl) _) (fun h => hSEL h.symm) (fun b hb h => by have := l1.block_lt hb; have := hap.bse; omega)
            · exact Only.setCell (l3.mono (fun _ _ h => .inl h)) (fun _ => .inr rfl) _
        · intro U2 vs w3 hU2 hK2 hlen3 hSt hval hall
          have d0 : U2[0]'(by omega) = .pointer (some ⟨c.PL, 0, none⟩) := at_of _ (kept_of hK2 0 (by decide) v0)
          have d1 : U2[1]'(by omega) = .int .i64 ((r1 : Int) + 1) := at_of _ (kept_of hK2 1 (by decide) v1)
          have d4 : U2[4]'(by omega) = .int .i64 q := at_of _ (kept_of hK2 4 (by decide) v4)
          have hPP : ∃ g2, LogAt w3 c.base c.L ((xs ++ givesL c.cr r1 (q - 1)) ++ [-3, (q : Int), ((r1 + 1 : Nat) : Int)]) g2 ∧ NewG wz g1 g2 ∧ Row w3 c.SE 20 (c.n + 1) (fun k => if k = q then .iface 3 (.int .i64 ((q : Int) * 100 + ((r1 + 1 : Nat) : Int))) else msgV (msz k)) ∧ Only (fun b => LogS c.L g1 b ∨ b = c.SE) wz w3 := by
            match vs, hlen3, hSt with
            | [_, _, _], _, h => exact h
          obtain ⟨g2, l1, l2, l3, l4⟩ := hPP
          have L1 := hidP l1
          have L2 := hidP l2
          have L3 := hidP l3
          have L4 := hidP l4
          clear l1 l2 l3 l4 hall hval hSt hK2 v0 v1 v4 hSEL hPLL hCL hPRL hAPL hap hnl
          go_wp2_with fail
          first | refine ⟨trivial, k - 1, by omega, ?_⟩ | refine ⟨k - 1, by omega, ?_⟩
          rw [HI.out]
          refine ⟨q + 1, by omega, by omega, by simp [hU2], by simp [hU2, d0], by simp [hU2, d1], by simp [hU2], g2, ?_, K2.out.trans L2.out HBZ.out.size, ?_, HBZ.out.logse K2.out L4.out⟩
          · have := L1.out
            rw [List.append_assoc] at this
            have e2 : givesL c.cr r1 (q + 1 - 1) = givesL c.cr r1 (q - 1) ++ [-3, (q : Int), ((r1 + 1 : Nat) : Int)] := by
              rw [show q + 1 - 1 = q - 1 + 1 by omega, givesL_succ, e1, hc]
              rfl
            rw [e2]
            exact this
          · refine L3.out.ext fun k hk => ?_
            rw [HMSZ.out]
            by_cases e : k = q
            · subst e
              simp [sentM, hc, hq1, msgV]
            · have : sentM c.cr r1 (q + 1 - 1) ms k = sentM c.cr r1 (q - 1) ms k := by
                unfold sentM
                by_cases h1 : 1 ≤ k ∧ k ≤ q - 1
                · rw [if_pos h1, if_pos (by omega)]
                · rw [if_neg h1, if_neg (by omega)]
              simp only [e, if_false]
              rw [this]
      · refine gen_frame (fun V => V.size = 43 ∧ V[0]?.getD undef = .pointer (some ⟨c.PL, 0, none⟩) ∧ V[1]?.getD undef = .int .i64 ((r1 : Int) + 1) ∧ V[4]?.getD undef = .int .i64 q) ⟨by simp [hU], by simp [hU, b0], by simp [hU, b1], by simp [hU, b4]⟩ ?_
        rintro T3 ⟨hT3, v0, v1, v4⟩
        have d0 : T3[0]'(by omega) = _ := at_of _ v0
        have d1 : T3[1]'(by omega) = _ := at_of _ v1
        have d4 : T3[4]'(by omega) = _ := at_of _ v4
        clear v0 v1 v4 hap hnl
        go_wp2_with fail
        first | refine ⟨trivial, k - 1, by omega, ?_⟩ | refine ⟨k - 1, by omega, ?_⟩
        rw [HI.out]
        refine ⟨q + 1, by omega, by omega, by simp [hT3], by simp [hT3, d0], by simp [hT3, d1], by simp [hT3], g1, ?_, K2.out, ?_, HBZ.out⟩
        · have e2 : givesL c.cr r1 (q + 1 - 1) = givesL c.cr r1 (q - 1) := by
            rw [show q + 1 - 1 = q - 1 + 1 by omega, givesL_succ, e1, hc]
            simp
          rw [e2]
          exact HLZ.out
        · refine HEZ.out.ext fun k hk => ?_
          rw [HMSZ.out]
          by_cases e : k = q
          · subst e
            simp [sentM, hc, hq1, msgV]
          · have : sentM c.cr r1 (q + 1 - 1) ms k = sentM c.cr r1 (q - 1) ms k := by
              unfold sentM
              by_cases h1 : 1 ≤ k ∧ k ≤ q - 1
              · rw [if_pos h1, if_pos (by omega)]
              · rw [if_neg h1, if_neg (by omega)]
            simp only [e, if_false]
            rw [this]
    · have hqn : q - 1 = c.n := by have := of_decide_eq_false h; omega
      clear h
      go_wp2_with fail
      refine bodyPost_end (v := .tuple #[]) (by simp [results, Yba.results29]) rfl ⟨rfl, g1, ?_, K2.out, ?_, K4.out⟩
      · have := K1.out
        rwa [hqn] at this
      · have := K3.out
        rwa [hqn] at this
  · rw [HI.out]
    refine ⟨1, by omega, by omega, rfl, rfl, rfl, rfl, g, by simpa [givesL] using HLOG.out, NewG.refl _ _, ?_, Only.refl⟩
    refine HSE.out.ext fun k hk => ?_
    have : sentM c.cr r1 (1 - 1) ms k = ms k := by
      unfold sentM
      rw [if_neg (by omega)]
    rw [this]
end Go.Proofs.Ybulkcawy
