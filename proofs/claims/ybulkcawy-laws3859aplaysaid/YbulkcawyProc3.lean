/-
  zzs3859aproc's Observe.
-/
import Derived.Test.YbulkcawyProc
namespace Go.Proofs.Ybulkcawy
open Go.RowKit
set_option linter.unusedSimpArgs false
set_option linter.unusedVariables false
set_option maxRecDepth 100000
set_option maxHeartbeats 2000000

/-- An event: its process, its time, its label's number. -/
structure Ev where
  p : Nat
  t : Nat
  l : Nat
def Ev.small (e : Ev) : Prop := e.p ≤ 1000 ∧ e.t ≤ 1000 ∧ e.l ≤ 2
def Ev.code (e : Ev) : List Int := [(e.p : Int), (e.t : Int), (e.l : Int)]

/-- The slice v reads as the events evs; its array lies below block B. -/
def EvS (w : World) (B : Nat) (bad : Nat) (v : Value) (evs : List Ev) : Prop :=
  (v = .slice none 0 0 ∧ evs = []) ∨
  ∃ E o cap, v = .slice (some ⟨E, o, none⟩) evs.length cap ∧ E < B ∧ E ≠ bad ∧ evs.length ≤ cap ∧ E < w.heap.size ∧
    ∀ k (hk : k < evs.length), w.cell? ⟨E, o + k * 3, none⟩ = some (.int .i64 evs[k].p) ∧ w.cell? ⟨E, o + k * 3 + 1, none⟩ = some (.int .i64 evs[k].t) ∧ w.cell? ⟨E, o + k * 3 + 2, none⟩ = some (labelV evs[k].l)

theorem EvS.len {w : World} {B bad : Nat} {v : Value} {evs : List Ev} (h : EvS w B bad v evs) : ∃ a cap, v = .slice a evs.length cap := by
  rcases h with ⟨rfl, rfl⟩ | ⟨E, o, cap, rfl, _⟩
  · exact ⟨none, 0, rfl⟩
  · exact ⟨_, _, rfl⟩
theorem EvS.only {w w' : World} {B bad : Nat} {S : Nat → Prop} {v : Value} {evs : List Ev} (h : EvS w B bad v evs) (ho : Only S w w') (hS : ∀ b, S b → b < B → b = bad) : EvS w' B bad v evs := by
  rcases h with h | ⟨E, o, cap, rfl, h1, h2, h3, h4, h5⟩
  · exact .inl h
  · have hb : w'.heap[E]? = w.heap[E]? := ho.block E h4 (fun h => h2 (hS E h h1))
    have hc : ∀ k, w'.cell? ⟨E, k, none⟩ = w.cell? ⟨E, k, none⟩ := fun k => World.cell?_of_block (w := w) (a := ⟨E, k, none⟩) hb
    refine .inr ⟨E, o, cap, rfl, h1, h2, h3, Nat.lt_of_lt_of_le h4 ho.size, fun k hk => ?_⟩
    rw [hc, hc, hc]
    exact h5 k hk

theorem codes_len (evs : List Ev) : (evs.flatMap Ev.code).length = 3 * evs.length := by
  induction evs with
  | nil => rfl
  | cons e evs ih => simp [List.flatMap_cons, ih, Ev.code]; omega

theorem observe (A L base id dec got : Nat) (xs : List Int) (g : Option Nat) (w : World) (hA : Row w A 67 4 (aprocM id dec got L)) (hAL : A ≠ L) (hAb : A < base) (hL : L < base) (hbase : base ≤ w.heap.size) (hlog : LogAt w base L xs g) (hlen : xs.length ≤ 900000) (hid : id ≤ 1000) (ev : Value) (evs : List Ev) (hev : EvS w base L ev evs) (hsm : ∀ e ∈ evs, e.small) (hm : evs.length ≤ 1000) :
    Calls Yba.prog 62 #[.pointer (some ⟨A, 0, none⟩), ev] w fun e w' => e = .returned (.tuple #[]) ∧ ∃ g', LogAt w' base L (xs ++ [-4, (id : Int), (evs.length : Int)] ++ evs.flatMap Ev.code) g' ∧ NewG w g g' ∧ Only (LogS L g) w w' := by
  have hlog' := hlog
  obtain ⟨v0, hrow, hown, hg0⟩ := hlog'
  have hAg : ¬ LogS L g A := by
    rintro (h | h)
    · exact hAL h
    · have := hlog.block_lt h
      omega
  have hgb : ∀ b, g = some b → base ≤ b := fun b hb => (hlog.block_lt hb).1
  obtain ⟨ea, ec, hevv⟩ := hev.len
  have HEV := hidP hev
  clear hev
  subst hevv
  refine calls_of_wp Yba.func62 rfl ?_
  simp only [Yba.ntmps62, List.size_toArray, List.length_cons, List.length_nil, Nat.reduceAdd, Nat.reduceSub, Array.replicate_succ, Array.replicate_zero, List.push_toArray, List.append_toArray, List.nil_append, List.cons_append]
  have HA := hidP hA
  have HLOG := hidP hlog
  have HROW := hidP hrow
  clear hA hlog hrow hown
  go_wp2_with fail
  refine region_log _ 52 (by first | rfl | assumption) [some (.pointer (some ⟨A, 0, none⟩)), some (.pointer (some ⟨A, 0, none⟩)), some (.pointer (some ⟨A, 3, none⟩)), some (.pointer (some ⟨L, 0, none⟩)), some (.pointer (some ⟨A, 0, none⟩)), some (.pointer (some ⟨A, 0, none⟩)), some (.pointer (some ⟨A, 3, none⟩)), some (.pointer (some ⟨L, 0, none⟩)), some (.pointer (some ⟨L, 0, none⟩)), some (v0), some (.pointer (some ⟨A, 0, none⟩)), some (.pointer (some ⟨A, 0, none⟩)), some (.pointer (some ⟨A, 0, none⟩)), some (.int .i64 id), some (.slice ea evs.length ec), some (.int .i64 evs.length), none, none, some (.pointer (some ⟨L, 0, none⟩)), none] 9 16 17 19 xs [-4, (id : Int), (evs.length : Int)] base L g w HLOG.out hL hbase (by simp) (by simp; omega) (by decide) (by decide) (by decide) (by decide) rfl rfl rfl 15 22 23 24 rfl rfl rfl rfl rfl rfl (by decide) (by decide) (by decide) (by decide) rfl rfl rfl ?_ ?_ ?_ ?_ ?_
  · intro U hU hK hdep
    exact slot_of (hdep ⟨18, .data⟩ (by simp) rfl _ rfl) rfl
  · intro v h
    have h1 := h.cell 0 (by omega)
    have h2 := (HROW.out).cell 0 (by omega)
    rw [h1] at h2
    simpa using h2.symm
  · intro U w1 hU hK hdep
    have d13 : U[19]?.getD undef = .int .i64 id := slot_of (hdep ⟨13, .data⟩ (by simp) rfl _ rfl) rfl
    have d15 : U[21]?.getD undef = .int .i64 evs.length := slot_of (hdep ⟨15, .data⟩ (by simp) rfl _ rfl) rfl
    simp [execOp, go_sem, intsV, d13, d15]
  · intro i hi l U w1 e1 e2 e3 hls hU hK hon hrw hdep
    have cA3 : w1.cell? ⟨A, 3, none⟩ = some (.pointer (some ⟨L, 0, none⟩)) := (HA.out.only hon hAg).cell 3 (by omega)
    have cA0 : w1.cell? ⟨A, 0, none⟩ = some (.int .i64 id) := (HA.out.only hon hAg).cell 0 (by omega)
    have cL : w1.cell? ⟨L, 0, none⟩ = some v0 := (hrw v0 HROW.out).cell 0 (by omega)
    have hu0 : U[0]?.getD undef = .pointer (some ⟨A, 0, none⟩) := kept_of hK 0 (by decide) (by first | rfl | assumption | simp_all)
    have hu1 : U[1]?.getD undef = .slice ea evs.length ec := kept_of hK 1 (by decide) (by first | rfl | assumption | simp_all)
    have hi' : i < 20 := hi
    rcases (by omega : i = 0 ∨ i = 1 ∨ i = 2 ∨ i = 3 ∨ i = 4 ∨ i = 5 ∨ i = 6 ∨ i = 7 ∨ i = 8 ∨ i = 9 ∨ i = 10 ∨ i = 11 ∨ i = 12 ∨ i = 13 ∨ i = 14 ∨ i = 15 ∨ i = 16 ∨ i = 17 ∨ i = 18 ∨ i = 19) with rfl | rfl | rfl | rfl | rfl | rfl | rfl | rfl | rfl | rfl | rfl | rfl | rfl | rfl | rfl | rfl | rfl | rfl | rfl | rfl
    · refine step_of_run (v := .pointer (some ⟨A, 0, none⟩)) (w' := w1) ?_ ⟨rfl, _, rfl, (fun h => by cases h), rfl⟩
      simp [execOp, go_sem, hu0, cA0, cA3, cL]
    · have d0 : U[6]?.getD undef = .pointer (some ⟨A, 0, none⟩) := slot_of (hdep ⟨0, .data⟩ (by simp) rfl _ rfl) rfl
      refine step_of_run (v := .pointer (some ⟨A, 0, none⟩)) (w' := w1) ?_ ⟨rfl, _, rfl, (fun h => by cases h), rfl⟩
      simp [execOp, go_sem, d0, cA0, cA3, cL]
    · have d1 : U[7]?.getD undef = .pointer (some ⟨A, 0, none⟩) := slot_of (hdep ⟨1, .data⟩ (by simp) rfl _ rfl) rfl
      refine step_of_run (v := .pointer (some ⟨A, 3, none⟩)) (w' := w1) ?_ ⟨rfl, _, rfl, (fun h => by cases h), rfl⟩
      simp [execOp, go_sem, d1, cA0, cA3, cL]
    · have d2 : U[8]?.getD undef = .pointer (some ⟨A, 3, none⟩) := slot_of (hdep ⟨2, .data⟩ (by simp) rfl _ rfl) rfl
      refine step_of_run (v := .pointer (some ⟨L, 0, none⟩)) (w' := w1) ?_ ⟨rfl, _, rfl, (fun h => by cases h), rfl⟩
      simp [execOp, go_sem, d2, cA0, cA3, cL]
    · refine step_of_run (v := .pointer (some ⟨A, 0, none⟩)) (w' := w1) ?_ ⟨rfl, _, rfl, (fun h => by cases h), rfl⟩
      simp [execOp, go_sem, hu0, cA0, cA3, cL]
    · have d4 : U[10]?.getD undef = .pointer (some ⟨A, 0, none⟩) := slot_of (hdep ⟨4, .data⟩ (by simp) rfl _ rfl) rfl
      refine step_of_run (v := .pointer (some ⟨A, 0, none⟩)) (w' := w1) ?_ ⟨rfl, _, rfl, (fun h => by cases h), rfl⟩
      simp [execOp, go_sem, d4, cA0, cA3, cL]
    · have d5 : U[11]?.getD undef = .pointer (some ⟨A, 0, none⟩) := slot_of (hdep ⟨5, .data⟩ (by simp) rfl _ rfl) rfl
      refine step_of_run (v := .pointer (some ⟨A, 3, none⟩)) (w' := w1) ?_ ⟨rfl, _, rfl, (fun h => by cases h), rfl⟩
      simp [execOp, go_sem, d5, cA0, cA3, cL]
    · have d6 : U[12]?.getD undef = .pointer (some ⟨A, 3, none⟩) := slot_of (hdep ⟨6, .data⟩ (by simp) rfl _ rfl) rfl
      refine step_of_run (v := .pointer (some ⟨L, 0, none⟩)) (w' := w1) ?_ ⟨rfl, _, rfl, (fun h => by cases h), rfl⟩
      simp [execOp, go_sem, d6, cA0, cA3, cL]
    · have d7 : U[13]?.getD undef = .pointer (some ⟨L, 0, none⟩) := slot_of (hdep ⟨7, .data⟩ (by simp) rfl _ rfl) rfl
      refine step_of_run (v := .pointer (some ⟨L, 0, none⟩)) (w' := w1) ?_ ⟨rfl, _, rfl, (fun h => by cases h), rfl⟩
      simp [execOp, go_sem, d7, cA0, cA3, cL]
    · have d8 : U[14]?.getD undef = .pointer (some ⟨L, 0, none⟩) := slot_of (hdep ⟨8, .data⟩ (by simp) rfl _ rfl) rfl
      refine step_of_run (v := v0) (w' := w1) ?_ ⟨rfl, _, rfl, (fun h => by cases h), rfl⟩
      simp [execOp, go_sem, d8, cA0, cA3, cL]
    · refine step_of_run (v := .pointer (some ⟨A, 0, none⟩)) (w' := w1) ?_ ⟨rfl, _, rfl, (fun h => by cases h), rfl⟩
      simp [execOp, go_sem, hu0, cA0, cA3, cL]
    · have d10 : U[16]?.getD undef = .pointer (some ⟨A, 0, none⟩) := slot_of (hdep ⟨10, .data⟩ (by simp) rfl _ rfl) rfl
      refine step_of_run (v := .pointer (some ⟨A, 0, none⟩)) (w' := w1) ?_ ⟨rfl, _, rfl, (fun h => by cases h), rfl⟩
      simp [execOp, go_sem, d10, cA0, cA3, cL]
    · have d11 : U[17]?.getD undef = .pointer (some ⟨A, 0, none⟩) := slot_of (hdep ⟨11, .data⟩ (by simp) rfl _ rfl) rfl
      refine step_of_run (v := .pointer (some ⟨A, 0, none⟩)) (w' := w1) ?_ ⟨rfl, _, rfl, (fun h => by cases h), rfl⟩
      simp [execOp, go_sem, d11, cA0, cA3, cL]
    · have d12 : U[18]?.getD undef = .pointer (some ⟨A, 0, none⟩) := slot_of (hdep ⟨12, .data⟩ (by simp) rfl _ rfl) rfl
      refine step_of_run (v := .int .i64 id) (w' := w1) ?_ ⟨rfl, _, rfl, (fun h => by cases h), rfl⟩
      simp [execOp, go_sem, d12, cA0, cA3, cL]
    · refine step_of_run (v := .slice ea evs.length ec) (w' := w1) ?_ ⟨rfl, _, rfl, (fun h => by cases h), rfl⟩
      simp [execOp, go_sem, hu1, cA0, cA3, cL]
    · have d14 : U[20]?.getD undef = .slice ea evs.length ec := slot_of (hdep ⟨14, .data⟩ (by simp) rfl _ rfl) rfl
      refine step_of_run (v := .int .i64 evs.length) (w' := w1) ?_ ⟨rfl, _, rfl, (fun h => by cases h), rfl⟩
      simp [execOp, go_sem, d14, cA0, cA3, cL]
    · exact absurd rfl e1
    · exact absurd rfl e2
    · have d3 : U[9]?.getD undef = .pointer (some ⟨L, 0, none⟩) := slot_of (hdep ⟨3, .data⟩ (by simp) rfl _ rfl) rfl
      refine step_of_run (v := .pointer (some ⟨L, 0, none⟩)) (w' := w1) ?_ ⟨rfl, _, rfl, (fun h => by cases h), rfl⟩
      simp [execOp, go_sem, d3, cA0, cA3, cL]
    · exact absurd rfl e3
  · intro U w' g' hU hK h1 h2 h3 hall
    have hu0 : U[0]'(by omega) = .pointer (some ⟨A, 0, none⟩) := at_of _ (kept_of hK 0 (by decide) rfl)
    have hu1 : U[1]'(by omega) = .slice ea evs.length ec := at_of _ (kept_of hK 1 (by decide) rfl)
    have H1 := hidP h1
    have H2 := hidP h2
    have H3 := hidP h3
    have HG := hidP hgb
    have HSM := hidP hsm
    clear h1 h2 h3 hall hK HLOG HROW hg0 v0 hgb hsm
    go_wp2_with fail
    refine wp_loop_n (fun k T wr => ∃ j, j + k = evs.length ∧ T.size = 52 ∧ T[0]?.getD undef = .pointer (some ⟨A, 0, none⟩) ∧ T[25]?.getD undef = .slice ea evs.length ec ∧ T[26]?.getD undef = .int .i64 evs.length ∧ T[27]?.getD undef = .int .i64 j ∧ ∃ g1, LogAt wr base L (xs ++ [-4, (id : Int), (evs.length : Int)] ++ (evs.take j).flatMap Ev.code) g1 ∧ NewG w g g1 ∧ Only (LogS L g) w wr) ?_ evs.length _ _ ?_
    · rintro k T wr ⟨j, hjk, hT, t0, t25, t26, t27, g1, k1, k2, k3⟩
      have a0 : T[0]'(by omega) = _ := at_of _ t0
      have a25 : T[25]'(by omega) = _ := at_of _ t25
      have a26 : T[26]'(by omega) = _ := at_of _ t26
      have a27 : T[27]'(by omega) = _ := at_of _ t27
      have K1 := hidP k1
      have K2 := hidP k2
      have K3 := hidP k3
      clear k1 k2 k3 t0 t25 t26 t27
      go_wp2_with fail
      refine wp_cond_at (decide (j < evs.length)) (by simp [Act.eval, hT]) (fun h => ?_) (fun h => ?_)
      · have hjn : j < evs.length := of_decide_eq_true h
        have i1 : (0 : Int) ≤ (j : Int) := by omega
        have i2 : (j : Int) < (evs.length : Int) := by omega
        have hEr : EvS wr base L (.slice ea evs.length ec) evs := HEV.out.only K3.out (fun b hb hB => by
          rcases hb with hb | hb
          · exact hb
          · have := HG.out b hb
            omega)
        obtain ⟨E, o, cap, hv, hEB, hEL, hcap, hElt, hcE⟩ : ∃ E o cap, Value.slice ea evs.length ec = .slice (some ⟨E, o, none⟩) evs.length cap ∧ E < base ∧ E ≠ L ∧ evs.length ≤ cap ∧ E < wr.heap.size ∧
            ∀ k (hk : k < evs.length), wr.cell? ⟨E, o + k * 3, none⟩ = some (.int .i64 evs[k].p) ∧ wr.cell? ⟨E, o + k * 3 + 1, none⟩ = some (.int .i64 evs[k].t) ∧ wr.cell? ⟨E, o + k * 3 + 2, none⟩ = some (labelV evs[k].l) := by
          rcases hEr with ⟨_, h⟩ | h
          · rw [h] at hjn; simp at hjn
          · exact h
        obtain ⟨c0, c1, c2⟩ := hcE j hjn
        rw [hv] at a25
        have HV := hidP hv
        clear h hcE hv hEr
        go_wp2_with fail
        obtain ⟨wb, hwb⟩ : ∃ wb, wb = wr.alloc (Obj.cells #[Value.int IntKind.i64 evs[j].p, Value.int IntKind.i64 evs[j].t, labelV evs[j].l] 40) := ⟨_, rfl⟩
        rw [← hwb]
        obtain ⟨e, he⟩ : ∃ e, e = wr.heap.size := ⟨_, rfl⟩
        have hob : Only (fun _ => False) wr wb := by rw [hwb]; exact Only.refl.alloc _
        have hre : Row wb e 40 3 (fun q => if q = 0 then .int .i64 evs[j].p else if q = 1 then .int .i64 evs[j].t else labelV evs[j].l) := by
          rw [hwb, he]
          exact Row.new wr [.int .i64 evs[j].p, .int .i64 evs[j].t, labelV evs[j].l] 40 _ (fun q hq => by
            have : q = 0 ∨ q = 1 ∨ q = 2 := by simp at hq; omega
            rcases this with rfl | rfl | rfl <;> rfl)
        rw [← he]
        have hLb : LogAt wb base L (xs ++ [-4, (id : Int), (evs.length : Int)] ++ (evs.take j).flatMap Ev.code) g1 := K1.out.only hob (fun h => h) (fun _ _ h => h)
        have hAr : Row wb A 67 4 (aprocM id dec got L) := (HA.out.only K3.out hAg).only hob (fun h => h)
        have hAg1 : ¬ LogS L g1 A := by
          rintro (h | h)
          · exact hAL h
          · have := K1.out.block_lt h
            omega
        have heg1 : ¬ LogS L g1 e := by
          rintro (h | h)
          · have := K1.out.lt
            omega
          · have := K1.out.block_lt h
            omega
        have hlt := K3.out.size
        have hwbs : wr.heap.size ≤ wb.heap.size := hob.size
        have HAR := hidP hAr
        have HRE := hidP hre
        have HLB := hidP hLb
        have HOB := hidP hob
        obtain ⟨v0, hrow, hown, hg0⟩ := hLb
        have HROW := hidP hrow
        have hsm := HSM.out
        have hlen1 : (xs ++ [-4, (id : Int), (evs.length : Int)] ++ (evs.take j).flatMap Ev.code).length ≤ 910000 := by
          rw [List.length_append, List.length_append, codes_len, List.length_take]
          simp
          omega
        have hbase1 : base ≤ wb.heap.size := by omega
        have hD : Hid (wb = _) := hwb
        have hE : Hid (e = _) := he
        clear hrow hown hre hAr hwb he hob
        refine region_log _ 52 (by simp [hT]) [some (.pointer (some ⟨A, 0, none⟩)), some (.pointer (some ⟨A, 0, none⟩)), some (.pointer (some ⟨A, 3, none⟩)), some (.pointer (some ⟨L, 0, none⟩)), some (.pointer (some ⟨A, 0, none⟩)), some (.pointer (some ⟨A, 0, none⟩)), some (.pointer (some ⟨A, 3, none⟩)), some (.pointer (some ⟨L, 0, none⟩)), some (.pointer (some ⟨L, 0, none⟩)), some (v0), some (.pointer (some ⟨e, 0, none⟩)), some (.int .i64 evs[j].p), some (.pointer (some ⟨e, 1, none⟩)), some (.int .i64 evs[j].t), some (.pointer (some ⟨e, 2, none⟩)), some (labelV evs[j].l), some (.int .i64 evs[j].l), none, none, some (.pointer (some ⟨L, 0, none⟩)), none] 9 17 18 20 (xs ++ [-4, (id : Int), (evs.length : Int)] ++ (evs.take j).flatMap Ev.code) [(evs[j].p : Int), (evs[j].t : Int), (evs[j].l : Int)] base L g1 wb HLB.out hL hbase1 (by simp) (by simp only [List.length_cons, List.length_nil]; omega) (by decide) (by decide) (by decide) (by decide) rfl rfl rfl 40 48 49 50 rfl rfl rfl rfl rfl rfl (by decide) (by decide) (by decide) (by decide) rfl rfl rfl ?_ ?_ ?_ ?_ ?_
        · intro U hU hK hdep
          exact slot_of (hdep ⟨19, .data⟩ (by simp) rfl _ rfl) rfl
        · intro v h
          have h1 := h.cell 0 (by omega)
          have h2 := (HROW.out).cell 0 (by omega)
          rw [h1] at h2
          simpa using h2.symm
        · intro U w1 hU hK hdep
          have d11 : U[42]?.getD undef = .int .i64 evs[j].p := slot_of (hdep ⟨11, .data⟩ (by simp) rfl _ rfl) rfl
          have d13 : U[44]?.getD undef = .int .i64 evs[j].t := slot_of (hdep ⟨13, .data⟩ (by simp) rfl _ rfl) rfl
          have d16 : U[47]?.getD undef = .int .i64 evs[j].l := slot_of (hdep ⟨16, .data⟩ (by simp) rfl _ rfl) rfl
          simp [execOp, go_sem, intsV, d11, d13, d16]
        · intro i hi l U w1 e1 e2 e3 hls hU hK hon hrw hdep
          have cA3 : w1.cell? ⟨A, 3, none⟩ = some (.pointer (some ⟨L, 0, none⟩)) := (HAR.out.only hon hAg1).cell 3 (by omega)
          have cA0 : w1.cell? ⟨A, 0, none⟩ = some (.int .i64 id) := (HAR.out.only hon hAg1).cell 0 (by omega)
          have cL : w1.cell? ⟨L, 0, none⟩ = some v0 := (hrw v0 HROW.out).cell 0 (by omega)
          have ce0 : w1.cell? ⟨e, 0, none⟩ = some (.int .i64 evs[j].p) := (HRE.out.only hon heg1).cell 0 (by omega)
          have ce1 : w1.cell? ⟨e, 1, none⟩ = some (.int .i64 evs[j].t) := (HRE.out.only hon heg1).cell 1 (by omega)
          have ce2 : w1.cell? ⟨e, 2, none⟩ = some (labelV evs[j].l) := (HRE.out.only hon heg1).cell 2 (by omega)
          have hu0 : U[0]?.getD undef = .pointer (some ⟨A, 0, none⟩) := kept_of hK 0 (by decide) (by simp [hT, a0])
          have hu5 : U[5]?.getD undef = .pointer (some ⟨e, 0, none⟩) := kept_of hK 5 (by decide) (by simp [hT, a0])
          have hi' : i < 21 := hi
          rcases (by omega : i = 0 ∨ i = 1 ∨ i = 2 ∨ i = 3 ∨ i = 4 ∨ i = 5 ∨ i = 6 ∨ i = 7 ∨ i = 8 ∨ i = 9 ∨ i = 10 ∨ i = 11 ∨ i = 12 ∨ i = 13 ∨ i = 14 ∨ i = 15 ∨ i = 16 ∨ i = 17 ∨ i = 18 ∨ i = 19 ∨ i = 20) with rfl | rfl | rfl | rfl | rfl | rfl | rfl | rfl | rfl | rfl | rfl | rfl | rfl | rfl | rfl | rfl | rfl | rfl | rfl | rfl | rfl
          · refine step_of_run (v := .pointer (some ⟨A, 0, none⟩)) (w' := w1) ?_ ⟨rfl, _, rfl, (fun h => by cases h), rfl⟩
            simp [execOp, go_sem, hu0, cA3, cL, ce0, ce1, ce2]
          · have d0 : U[31]?.getD undef = .pointer (some ⟨A, 0, none⟩) := slot_of (hdep ⟨0, .data⟩ (by simp) rfl _ rfl) rfl
            refine step_of_run (v := .pointer (some ⟨A, 0, none⟩)) (w' := w1) ?_ ⟨rfl, _, rfl, (fun h => by cases h), rfl⟩
            simp [execOp, go_sem, d0, cA3, cL, ce0, ce1, ce2]
          · have d1 : U[32]?.getD undef = .pointer (some ⟨A, 0, none⟩) := slot_of (hdep ⟨1, .data⟩ (by simp) rfl _ rfl) rfl
            refine step_of_run (v := .pointer (some ⟨A, 3, none⟩)) (w' := w1) ?_ ⟨rfl, _, rfl, (fun h => by cases h), rfl⟩
            simp [execOp, go_sem, d1, cA3, cL, ce0, ce1, ce2]
          · have d2 : U[33]?.getD undef = .pointer (some ⟨A, 3, none⟩) := slot_of (hdep ⟨2, .data⟩ (by simp) rfl _ rfl) rfl
            refine step_of_run (v := .pointer (some ⟨L, 0, none⟩)) (w' := w1) ?_ ⟨rfl, _, rfl, (fun h => by cases h), rfl⟩
            simp [execOp, go_sem, d2, cA3, cL, ce0, ce1, ce2]
          · refine step_of_run (v := .pointer (some ⟨A, 0, none⟩)) (w' := w1) ?_ ⟨rfl, _, rfl, (fun h => by cases h), rfl⟩
            simp [execOp, go_sem, hu0, cA3, cL, ce0, ce1, ce2]
          · have d4 : U[35]?.getD undef = .pointer (some ⟨A, 0, none⟩) := slot_of (hdep ⟨4, .data⟩ (by simp) rfl _ rfl) rfl
            refine step_of_run (v := .pointer (some ⟨A, 0, none⟩)) (w' := w1) ?_ ⟨rfl, _, rfl, (fun h => by cases h), rfl⟩
            simp [execOp, go_sem, d4, cA3, cL, ce0, ce1, ce2]
          · have d5 : U[36]?.getD undef = .pointer (some ⟨A, 0, none⟩) := slot_of (hdep ⟨5, .data⟩ (by simp) rfl _ rfl) rfl
            refine step_of_run (v := .pointer (some ⟨A, 3, none⟩)) (w' := w1) ?_ ⟨rfl, _, rfl, (fun h => by cases h), rfl⟩
            simp [execOp, go_sem, d5, cA3, cL, ce0, ce1, ce2]
          · have d6 : U[37]?.getD undef = .pointer (some ⟨A, 3, none⟩) := slot_of (hdep ⟨6, .data⟩ (by simp) rfl _ rfl) rfl
            refine step_of_run (v := .pointer (some ⟨L, 0, none⟩)) (w' := w1) ?_ ⟨rfl, _, rfl, (fun h => by cases h), rfl⟩
            simp [execOp, go_sem, d6, cA3, cL, ce0, ce1, ce2]
          · have d7 : U[38]?.getD undef = .pointer (some ⟨L, 0, none⟩) := slot_of (hdep ⟨7, .data⟩ (by simp) rfl _ rfl) rfl
            refine step_of_run (v := .pointer (some ⟨L, 0, none⟩)) (w' := w1) ?_ ⟨rfl, _, rfl, (fun h => by cases h), rfl⟩
            simp [execOp, go_sem, d7, cA3, cL, ce0, ce1, ce2]
          · have d8 : U[39]?.getD undef = .pointer (some ⟨L, 0, none⟩) := slot_of (hdep ⟨8, .data⟩ (by simp) rfl _ rfl) rfl
            refine step_of_run (v := v0) (w' := w1) ?_ ⟨rfl, _, rfl, (fun h => by cases h), rfl⟩
            simp [execOp, go_sem, d8, cA3, cL, ce0, ce1, ce2]
          · refine step_of_run (v := .pointer (some ⟨e, 0, none⟩)) (w' := w1) ?_ ⟨rfl, _, rfl, (fun h => by cases h), rfl⟩
            simp [execOp, go_sem, hu5, cA3, cL, ce0, ce1, ce2]
          · have d10 : U[41]?.getD undef = .pointer (some ⟨e, 0, none⟩) := slot_of (hdep ⟨10, .data⟩ (by simp) rfl _ rfl) rfl
            refine step_of_run (v := .int .i64 evs[j].p) (w' := w1) ?_ ⟨rfl, _, rfl, (fun h => by cases h), rfl⟩
            simp [execOp, go_sem, d10, cA3, cL, ce0, ce1, ce2]
          · refine step_of_run (v := .pointer (some ⟨e, 1, none⟩)) (w' := w1) ?_ ⟨rfl, _, rfl, (fun h => by cases h), rfl⟩
            simp [execOp, go_sem, hu5, cA3, cL, ce0, ce1, ce2]
          · have d12 : U[43]?.getD undef = .pointer (some ⟨e, 1, none⟩) := slot_of (hdep ⟨12, .data⟩ (by simp) rfl _ rfl) rfl
            refine step_of_run (v := .int .i64 evs[j].t) (w' := w1) ?_ ⟨rfl, _, rfl, (fun h => by cases h), rfl⟩
            simp [execOp, go_sem, d12, cA3, cL, ce0, ce1, ce2]
          · refine step_of_run (v := .pointer (some ⟨e, 2, none⟩)) (w' := w1) ?_ ⟨rfl, _, rfl, (fun h => by cases h), rfl⟩
            simp [execOp, go_sem, hu5, cA3, cL, ce0, ce1, ce2]
          · have d14 : U[45]?.getD undef = .pointer (some ⟨e, 2, none⟩) := slot_of (hdep ⟨14, .data⟩ (by simp) rfl _ rfl) rfl
            refine step_of_run (v := labelV evs[j].l) (w' := w1) ?_ ⟨rfl, _, rfl, (fun h => by cases h), rfl⟩
            simp [execOp, go_sem, d14, cA3, cL, ce0, ce1, ce2]
          · have d15 : U[46]?.getD undef = labelV evs[j].l := slot_of (hdep ⟨15, .data⟩ (by simp) rfl _ rfl) rfl
            refine step_of_call (f := 16) (args := #[labelV evs[j].l]) (w' := w1) ?_ ((alcode0 evs[j].l (hsm evs[j] (by simp)).2.2 w1).mono ?_)
            · simp [execOp, go_sem, d15]
            · rintro e w9 ⟨rfl, rfl⟩
              exact ⟨_, rfl, rfl, _, rfl, (fun h => by cases h), rfl⟩
          · exact absurd rfl e1
          · exact absurd rfl e2
          · have d3 : U[34]?.getD undef = .pointer (some ⟨L, 0, none⟩) := slot_of (hdep ⟨3, .data⟩ (by simp) rfl _ rfl) rfl
            refine step_of_run (v := .pointer (some ⟨L, 0, none⟩)) (w' := w1) ?_ ⟨rfl, _, rfl, (fun h => by cases h), rfl⟩
            simp [execOp, go_sem, d3, cA3, cL, ce0, ce1, ce2]
          · exact absurd rfl e3
        · intro U2 w2 g2 hU2 hK2 h1 h2 h3 hall2
          have b0 : U2[0]'(by omega) = .pointer (some ⟨A, 0, none⟩) := at_of _ (kept_of hK2 0 (by decide) (by simp [hT, a0]))
          have b25 : U2[25]'(by omega) = .slice (some ⟨E, o, none⟩) evs.length cap := at_of _ (kept_of hK2 25 (by decide) (by simp [hT, a25]))
          have b26 : U2[26]'(by omega) = .int .i64 evs.length := at_of _ (kept_of hK2 26 (by decide) (by simp [hT, a26]))
          have b27 : U2[27]'(by omega) = .int .i64 j := at_of _ (kept_of hK2 27 (by decide) (by simp [hT, a27]))
          have M1 := hidP h1
          have M2 := hidP h2
          have M3 := hidP h3
          clear h1 h2 h3 hall2 hK2 hsm
          go_wp2_with fail
          refine ⟨trivial, k - 1, by omega, j + 1, by omega, by simp [hU2], by simp [hU2, b0], by rw [HV.out]; simp [hU2, b25], by simp [hU2, b26], by simp [hU2], g2, ?_, K2.out.trans M2.out (by omega), (K3.out.trans' HOB.out (fun _ _ h => h.elim)).log K2.out M3.out⟩
          have := M1.out
          rw [List.append_assoc] at this
          have e3 : (evs.take (j + 1)).flatMap Ev.code = (evs.take j).flatMap Ev.code ++ [(evs[j].p : Int), (evs[j].t : Int), (evs[j].l : Int)] := by
            rw [List.take_add_one, List.flatMap_append, List.getElem?_eq_getElem hjn]
            simp [Ev.code]
          rw [e3]
          exact this
      · have hjn : j = evs.length := by have := of_decide_eq_false h; omega
        clear h
        go_wp2_with fail
        refine bodyPost_end (v := .tuple #[]) (by simp [results, Yba.results62]) rfl ⟨rfl, g1, ?_, K2.out, K3.out⟩
        have := K1.out
        rw [hjn, List.take_length] at this
        exact this
    · refine ⟨0, by omega, by simp [hU], by simp [hU, hu0], by simp [hU], by simp [hU], by simp [hU], g', ?_, H2.out, H3.out⟩
      simpa using H1.out

end Go.Proofs.Ybulkcawy
