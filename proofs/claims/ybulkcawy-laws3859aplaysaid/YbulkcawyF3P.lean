/-
  LawS3859APlay: the plain law: what is received is what is wanted.
-/
import Derived.Test.YbulkcawyF3I
namespace Go.Proofs.Ybulkcawy
open Go.RowKit
set_option linter.unusedSimpArgs false
set_option linter.unusedVariables false
set_option maxRecDepth 100000
set_option maxHeartbeats 1000000

/-! ### Events -/
theorem selE_append (r i : Nat) (a b : List Ev) : selE r i (a ++ b) = selE r i a ++ selE r i b := by simp [selE, List.filter_append]
theorem selE_evE (p : Inp) (m q r i : Nat) : selE r i (p.evE m q) = if m = r ∧ q = i then p.evE m q else [] := by
  unfold selE
  by_cases h : m = r ∧ q = i
  · rw [if_pos h, List.filter_eq_self]
    intro e he
    have := mem_evE he
    simp only [Bool.and_eq_true, decide_eq_true_eq]
    omega
  · rw [if_neg h, List.filter_eq_nil_iff]
    intro e he
    have := mem_evE he
    simp only [Bool.and_eq_true, decide_eq_true_eq]
    omega
theorem selE_rowQ (p : Inp) (m r i k : Nat) : selE r i (rowQ p m k) = if m = r ∧ 1 ≤ i ∧ i ≤ k then p.evE r i else [] := by
  induction k with
  | zero => rw [if_neg (by omega)]; rfl
  | succ k ih =>
    rw [rowQ_succ, selE_append, ih, selE_evE]
    by_cases h : m = r
    · subst h
      by_cases h1 : i = k + 1
      · subst h1
        rw [if_neg (by omega), if_pos ⟨rfl, rfl⟩, if_pos ⟨rfl, by omega, by omega⟩]
        rfl
      · rw [if_neg (show ¬ (m = m ∧ k + 1 = i) by omega), List.append_nil]
        by_cases h2 : 1 ≤ i ∧ i ≤ k
        · rw [if_pos ⟨rfl, h2⟩, if_pos ⟨rfl, by omega, by omega⟩]
        · rw [if_neg (by omega), if_neg (by omega)]
    · rw [if_neg (by omega), if_neg (by omega), if_neg (by omega)]
      rfl
theorem selE_allE (p : Inp) (r i k : Nat) (h1 : 1 ≤ i) (h2 : i ≤ p.n) : selE r i (allE p k) = if r < k then p.evE r i else [] := by
  induction k with
  | zero => rw [if_neg (by omega)]; rfl
  | succ k ih =>
    rw [allE_succ, selE_append, ih, selE_rowQ]
    by_cases h : k = r
    · subst h
      rw [if_neg (by omega), if_pos ⟨rfl, h1, h2⟩, if_pos (by omega)]
      rfl
    · rw [if_neg (show ¬ (k = r ∧ 1 ≤ i ∧ i ≤ p.n) by omega), List.append_nil]
      by_cases h3 : r < k
      · rw [if_pos h3, if_pos (by omega)]
      · rw [if_neg h3, if_neg (by omega)]

/-! ### Failures -/
theorem mem_clA (p : Inp) (k : Nat) (c : Fail) (h : c ∈ p.clA k) : 1 ≤ c.q ∧ c.q ≤ k ∧ 0 < p.cA c.q ∧ c = ⟨c.q, p.cA c.q, bitsL (p.rmA c.q) p.n⟩ := by
  unfold Inp.clA at h
  rw [List.mem_flatMap] at h
  obtain ⟨j, hj, hc⟩ := h
  have := List.mem_range.1 hj
  split at hc
  · rename_i h0
    rw [List.mem_singleton] at hc
    subst hc
    exact ⟨by simp, by simp; omega, by simpa using h0, rfl⟩
  · simp at hc
theorem clA_mem (p : Inp) (k q : Nat) (h1 : 1 ≤ q) (h2 : q ≤ k) (h : 0 < p.cA q) : (⟨q, p.cA q, bitsL (p.rmA q) p.n⟩ : Fail) ∈ p.clA k := by
  unfold Inp.clA
  rw [List.mem_flatMap]
  refine ⟨q - 1, List.mem_range.2 (by omega), ?_⟩
  rw [show q - 1 + 1 = q by omega, if_pos h]
  simp
theorem clA_pair (p : Inp) (k : Nat) : (p.clA k).Pairwise (fun a b => a.q ≠ b.q) := by
  induction k with
  | zero => exact List.Pairwise.nil
  | succ k ih =>
    rw [Inp.clA_succ, List.pairwise_append]
    refine ⟨ih, ?_, fun a ha b hb => ?_⟩
    · split <;> simp
    · have h1 := (mem_clA p k a ha).2.1
      split at hb
      · rw [List.mem_singleton] at hb
        subst hb
        simp
        omega
      · simp at hb
theorem find_clA (p : Inp) (q : Nat) : (p.clA p.n).find? (isF p.last q) = if 1 ≤ q ∧ q ≤ p.n ∧ 0 < p.cA q ∧ p.cA q ≤ p.last then some ⟨q, p.cA q, bitsL (p.rmA q) p.n⟩ else none := by
  by_cases h : 1 ≤ q ∧ q ≤ p.n ∧ 0 < p.cA q ∧ p.cA q ≤ p.last
  · rw [if_pos h]
    obtain ⟨h1, h2, h3, h4⟩ := h
    cases hf : (p.clA p.n).find? (isF p.last q) with
    | none =>
      rw [List.find?_eq_none] at hf
      exact absurd (by simp [isF]; exact h4) (hf _ (clA_mem p p.n q h1 h2 h3))
    | some c =>
      have hm := List.mem_of_find?_eq_some hf
      have hp := List.find?_some hf
      unfold isF at hp
      simp only [Bool.and_eq_true, decide_eq_true_eq] at hp
      have := (mem_clA p p.n c hm).2.2.2
      rw [hp.1] at this
      rw [this]
  · rw [if_neg h, List.find?_eq_none]
    intro c hc hp
    unfold isF at hp
    simp only [Bool.and_eq_true, decide_eq_true_eq] at hp
    obtain ⟨m1, m2, m3, m4⟩ := mem_clA p p.n c hc
    have hr : c.r = p.cA c.q := by rw [m4]
    rw [hp.1] at m1 m2 m3 hr
    exact h ⟨m1, m2, m3, by omega⟩
theorem crF_clA (p : Inp) : crF p.last (p.clA p.n) = upTo p.n p.crA := by
  funext q
  unfold crF upTo Inp.crA
  rw [find_clA]
  by_cases h : 1 ≤ q ∧ q ≤ p.n
  · rw [if_pos h]
    by_cases h3 : p.cA q ≤ p.last
    · rw [if_pos h3]
      by_cases h4 : 0 < p.cA q
      · rw [if_pos ⟨h.1, h.2, h4, h3⟩]
      · rw [if_neg (by omega)]
        show 0 = p.cA q
        omega
    · rw [if_neg h3, if_neg (by omega)]
  · rw [if_neg h, if_neg (by omega)]
theorem mem_flF (p : Inp) (q : Nat) : q ∈ flF p.last (p.clA p.n) ↔ upTo p.n p.crA q ≠ 0 := by
  rw [← crF_clA]
  unfold flF crF
  rw [find_clA]
  constructor
  · intro h
    rw [List.mem_map] at h
    obtain ⟨c, hc, hq⟩ := h
    rw [List.mem_filter] at hc
    obtain ⟨m1, m2, m3, m4⟩ := mem_clA p p.n c hc.1
    have hr : c.r = p.cA c.q := by rw [m4]
    have h5 : c.r ≤ p.last := of_decide_eq_true hc.2
    rw [hq] at m1 m2 m3 hr
    rw [if_pos ⟨m1, m2, m3, by omega⟩]
    show p.cA q ≠ 0
    omega
  · intro h
    by_cases h1 : 1 ≤ q ∧ q ≤ p.n ∧ 0 < p.cA q ∧ p.cA q ≤ p.last
    · rw [List.mem_map]
      refine ⟨⟨q, p.cA q, bitsL (p.rmA q) p.n⟩, List.mem_filter.2 ⟨clA_mem p p.n q h1.1 h1.2.1 h1.2.2.1, decide_eq_true h1.2.2.2⟩, rfl⟩
    · rw [if_neg h1] at h
      exact absurd rfl h
theorem contains_bitsL (rm n i : Nat) (h1 : 1 ≤ i) (h2 : i ≤ n) : (bitsL rm n).contains i = bitT rm (i - 1) := by
  rw [Bool.eq_iff_iff, List.contains_iff_mem, mem_bitsL]
  exact ⟨fun h => h.2.2, fun h => ⟨h1, h2, h⟩⟩
theorem reF_clA (p : Inp) (q i : Nat) (h1 : 1 ≤ i) (h2 : i ≤ p.n) (hc : upTo p.n p.crA q ≠ 0) : reF p.last (p.clA p.n) q i = bitT (upTo p.n p.reA q) (i - 1) := by
  rw [← crF_clA] at hc
  unfold crF at hc
  unfold reF
  rw [find_clA] at hc ⊢
  by_cases h : 1 ≤ q ∧ q ≤ p.n ∧ 0 < p.cA q ∧ p.cA q ≤ p.last
  · rw [if_pos h]
    show (bitsL (p.rmA q) p.n).contains i = _
    rw [contains_bitsL _ _ _ h1 h2]
    unfold upTo Inp.reA
    rw [if_pos ⟨h.1, h.2.1⟩, if_pos h.2.2]
  · rw [if_neg h] at hc
    exact absurd rfl hc

theorem mem_olA (p : Inp) (k : Nat) (o : Fail) (h : o ∈ p.olA k) : ∃ j, j < k ∧ o = p.omA j := by
  unfold Inp.olA at h
  rw [List.mem_map] at h
  obtain ⟨j, hj, rfl⟩ := h
  exact ⟨j, List.mem_range.1 hj, rfl⟩
theorem omN_pos (p : Inp) (j : Nat) (h : j < p.omN) : 0 < p.last := by
  unfold Inp.omN at h
  split at h
  · assumption
  · omega
theorem olA_ok (p : Inp) (hp : p.ok) (o : Fail) (h : o ∈ p.olA p.omN) : 1 ≤ o.q ∧ o.q ≤ p.n ∧ 1 ≤ o.r ∧ o.r ≤ p.last ∧ o.xs.length ≤ 6 ∧ ∀ i ∈ o.xs, 1 ≤ i ∧ i ≤ p.n := by
  obtain ⟨j, hj, rfl⟩ := mem_olA p _ o h
  have hl := omN_pos p j hj
  have hn := hp.n1
  have hn6 := hp.n6
  have h1 := Nat.mod_lt (p.fq j) (show 0 < p.n by omega)
  have h2 : 1 ≤ p.omR j ∧ p.omR j ≤ p.last := by
    unfold Inp.omR
    split
    · have := Nat.mod_lt (p.fo j) hl
      omega
    · omega
  have h3 := bitsL_len (p.omM j) p.n
  unfold Inp.omA
  refine ⟨by simp, by simp; omega, h2.1, h2.2, by simp; omega, fun i hi => ?_⟩
  have := (mem_bitsL _ _ _).1 hi
  omega
theorem olA_len (p : Inp) : (p.olA p.omN).length ≤ 64 := by
  unfold Inp.olA
  rw [List.length_map, List.length_range]
  unfold Inp.omN
  split
  · split <;> omega
  · omega

theorem markX_inj {q r i q' r' i' : Nat} (hi : i ≤ 6) (hr : r ≤ 5) (hi' : i' ≤ 6) (hr' : r' ≤ 5) (h : markX q r i = markX q' r' i') : q = q' ∧ r = r' ∧ i = i' := by
  unfold markX at h
  omega
theorem lostX_inj {n r i r' i' : Nat} (h1 : 1 ≤ r) (h2 : i ≤ n) (h1' : 1 ≤ r') (h2' : i' ≤ n) (h : lostX n r i = lostX n r' i') : r = r' ∧ i = i' := by
  unfold lostX at h
  have e1 : ((r - 1) * (n + 1) + i) / (n + 1) = r - 1 := by
    rw [Nat.mul_comm, Nat.mul_add_div (by omega), Nat.div_eq_of_lt (by omega)]; rfl
  have e2 : ((r' - 1) * (n + 1) + i') / (n + 1) = r' - 1 := by
    rw [Nat.mul_comm, Nat.mul_add_div (by omega), Nat.div_eq_of_lt (by omega)]; rfl
  rw [h] at e1
  have e3 : r - 1 = r' - 1 := by omega
  rw [e3] at h
  omega

/-- An omission's mark, in the program's table and in the law's. -/
theorem loF_lostT (p : Inp) (hp : p.ok) (d : SB) (hd : d.n = p.n) (q r i : Nat) (hr1 : 1 ≤ r) (hr : r ≤ p.last) (hi1 : 1 ≤ i) (hi : i ≤ p.n) : loF d (p.olA p.omN) q (lostX p.n r i) = lostT p p.omN (markX q r i) := by
  have hn6 := hp.n6
  have hl5 := hp.l5
  unfold loF lostT
  rw [Bool.eq_iff_iff, List.any_eq_true, List.any_eq_true]
  constructor
  · rintro ⟨o, ho, h⟩
    obtain ⟨o1, o2, o3, o4, o5, o6⟩ := olA_ok p hp o ho
    simp only [Bool.and_eq_true, decide_eq_true_eq, List.contains_iff_mem, List.mem_map] at h
    obtain ⟨h1, i', h2, h3⟩ := h
    rw [hd] at h3
    obtain ⟨e1, e2⟩ := lostX_inj o3 (o6 i' h2).2 hr1 hi h3
    refine ⟨o, ho, List.any_eq_true.2 ⟨i', h2, ?_⟩⟩
    rw [decide_eq_true_eq, h1, e1, e2]
  · rintro ⟨o, ho, h⟩
    obtain ⟨o1, o2, o3, o4, o5, o6⟩ := olA_ok p hp o ho
    rw [List.any_eq_true] at h
    obtain ⟨i', h2, h3⟩ := h
    have h4 := (o6 i' h2).2
    obtain ⟨e1, e2, e3⟩ := markX_inj (by omega) (by omega) (by omega) (by omega) (of_decide_eq_true h3)
    refine ⟨o, ho, ?_⟩
    simp only [Bool.and_eq_true, decide_eq_true_eq, List.contains_iff_mem, List.mem_map]
    exact ⟨e1.symm, i', h2, by rw [hd, e2, e3]⟩
theorem lostT_none (p : Inp) (hp : p.ok) (q r i : Nat) (hr : r ≤ p.last) (hi : i ≤ p.n) (h : hasF (p.olA p.omN) q = false) : lostT p p.omN (markX q r i) = false := by
  have hn6 := hp.n6
  have hl5 := hp.l5
  cases hl : lostT p p.omN (markX q r i) with
  | false => rfl
  | true =>
    unfold lostT at hl
    rw [List.any_eq_true] at hl
    obtain ⟨o, ho, hx⟩ := hl
    obtain ⟨o1, o2, o3, o4, o5, o6⟩ := olA_ok p hp o ho
    rw [List.any_eq_true] at hx
    obtain ⟨i', h2, h3⟩ := hx
    have h4 := (o6 i' h2).2
    obtain ⟨e1, e2, e3⟩ := markX_inj (by omega) (by omega) (by omega) (by omega) (of_decide_eq_true h3)
    have : hasF (p.olA p.omN) q = true := by
      unfold hasF
      rw [List.any_eq_true]
      exact ⟨o, ho, decide_eq_true e1.symm⟩
    rw [this] at h
    cases h
theorem mmF_bound (p : Inp) (hp : p.ok) (d : SB) (hd : d.n = p.n) (hol : d.ol = p.olA p.omN) (q r i : Nat) (hr1 : 1 ≤ r) (hr : r ≤ p.last) (hi1 : 1 ≤ i) (hi : i ≤ p.n) (h : loF d d.ol q (lostX p.n r i) = true) : lostX p.n r i < mmF d d.ol q := by
  unfold loF at h
  rw [List.any_eq_true] at h
  obtain ⟨o, ho, hx⟩ := h
  have ho' := ho
  rw [hol] at ho'
  obtain ⟨o1, o2, o3, o4, o5, o6⟩ := olA_ok p hp o ho'
  simp only [Bool.and_eq_true, decide_eq_true_eq, List.contains_iff_mem, List.mem_map] at hx
  obtain ⟨h1, i', h2, h3⟩ := hx
  rw [hd] at h3
  obtain ⟨e1, e2⟩ := lostX_inj o3 (o6 i' h2).2 hr1 hi h3
  have hh : hasF d.ol q = true := by
    unfold hasF
    rw [List.any_eq_true]
    exact ⟨o, ho, decide_eq_true h1⟩
  have hv := lovF_ge d.ol o ho
  rw [h1, e1] at hv
  unfold mmF
  rw [if_pos hh, hd]
  unfold lostX
  have h5 : r * (p.n + 1) ≤ lovF d.ol q * (p.n + 1) := Nat.mul_le_mul_right _ hv
  have h6 : (r - 1) * (p.n + 1) + (p.n + 1) = r * (p.n + 1) := by
    have : r = (r - 1) + 1 := by omega
    conv => rhs; rw [this, Nat.add_mul, Nat.one_mul]
  omega
theorem mmF_le (p : Inp) (hp : p.ok) (d : SB) (hd : d.n = p.n) (hol : d.ol = p.olA p.omN) (q : Nat) : mmF d d.ol q ≤ 1000 := by
  have hn6 := hp.n6
  have hl5 := hp.l5
  unfold mmF
  split
  · have h1 : lovF d.ol q ≤ 5 := lovF_le d.ol q 5 (fun o ho => by
      rw [hol] at ho
      have := (olA_ok p hp o ho).2.2.2.1
      omega)
    have h2 : lovF d.ol q * (d.n + 1) ≤ 5 * 7 := Nat.mul_le_mul h1 (by omega)
    omega
  · omega

/-- What reaches a process is what the law says. -/
theorem okA_delP (p : Inp) (hp : p.ok) (c : Cfg) (pp : Par) (d : SB) (hcn : c.n = p.n) (hcr : c.cr = upTo p.n p.crA) (hd : d.n = p.n) (hol : d.ol = p.olA p.omN)
    (hfl : ∀ q, q ∈ pp.fl ↔ q ∈ flF p.last (p.clA p.n) ∨ (crF p.last (p.clA p.n) q = 0 ∧ hasF (p.olA p.omN) q = true)) (hmm : pp.mm = mmF d d.ol) (hlo : pp.lo = loF d d.ol) (hre : pp.re = reF p.last (p.clA p.n))
    (r i q : Nat) (hr1 : 1 ≤ r) (hr : r ≤ p.last) (hi1 : 1 ≤ i) (hi : i ≤ p.n) : okA p r i q = (compl c.cr q (r - 1) && delP c pp q i r) := by
  unfold okA delP
  rw [hcr, Bool.and_assoc]
  congr 1
  have hL := loF_lostT p hp d hd q r i hr1 hr hi1 hi
  cases hf : pp.fl.contains q with
  | false =>
    have hn : q ∉ pp.fl := fun h => by
      rw [← List.contains_iff_mem, hf] at h
      cases h
    rw [hfl, mem_flF, crF_clA] at hn
    have h0 : upTo p.n p.crA q = 0 := by
      cases hz : upTo p.n p.crA q with
      | zero => rfl
      | succ z => exact absurd (.inl (by omega)) hn
    have hh : hasF (p.olA p.omN) q = false := by
      cases hb : hasF (p.olA p.omN) q with
      | false => rfl
      | true => exact absurd (.inr ⟨h0, hb⟩) hn
    rw [lostT_none p hp q r i hr hi hh]
    simp [compl, h0]
  | true =>
    unfold deliv
    rw [hmm, hlo, hre, hcn]
    have e : (r - 1) * (p.n + 1) + i = lostX p.n r i := rfl
    rw [e]
    have h1 : (decide (lostX p.n r i < mmF d d.ol q) && loF d d.ol q (lostX p.n r i)) = lostT p p.omN (markX q r i) := by
      cases hb : loF d d.ol q (lostX p.n r i) with
      | false =>
        rw [Bool.and_false, ← hL, ← hol, hb]
      | true =>
        rw [decide_eq_true (mmF_bound p hp d hd hol q r i hr1 hr hi1 hi hb), ← hL, ← hol, hb]
        rfl
    rw [h1]
    simp only [Bool.not_true, Bool.false_or]
    congr 2
    by_cases hq : upTo p.n p.crA q = r
    · rw [reF_clA p q i hi1 hi (by omega)]
    · rw [decide_eq_false hq]
      rfl

theorem recv_want (p : Inp) (hp : p.ok) (c : Cfg) (pp : Par) (d : SB) (hcn : c.n = p.n) (hcr : c.cr = upTo p.n p.crA) (hd : d.n = p.n) (hol : d.ol = p.olA p.omN) (hk : pp.keep = p.keep) (hE : pp.E = p.evE)
    (hfl : ∀ q, q ∈ pp.fl ↔ q ∈ flF p.last (p.clA p.n) ∨ (crF p.last (p.clA p.n) q = 0 ∧ hasF (p.olA p.omN) q = true)) (hmm : pp.mm = mmF d d.ol) (hlo : pp.lo = loF d d.ol) (hre : pp.re = reF p.last (p.clA p.n))
    (r : Nat) (hr1 : 1 ≤ r) (hr : r ≤ p.last) (k : Nat) (hkn : k ≤ p.n) : recvsL c pp r k = wantsR p r k := by
  induction k with
  | zero => rfl
  | succ k ih =>
    rw [recvsL_succ, wantsR_succ, ih (by omega)]
    congr 1
    unfold recvL wantR
    rw [hcr]
    congr 1
    rw [hcn]
    have e1 : (if pp.keep = true then [-4, ((k + 1 : Nat) : Int), ((pp.E r (k + 1)).length : Int)] ++ (pp.E r (k + 1)).flatMap Ev.code else []) = evPart p r (k + 1) := by
      unfold evPart
      rw [hk, hE, selE_allE p r (k + 1) _ (by omega) hkn, if_pos (show r < p.last + 1 by omega)]
    rw [e1]
    congr 1
    unfold okL
    refine List.map_congr_left fun j hj => ?_
    have hjn := List.mem_range.1 hj
    rw [okA_delP p hp c pp d hcn hcr hd hol hfl hmm hlo hre r (k + 1) (j + 1) hr1 hr (by omega) hkn]
    unfold inbAt sentAt
    cases delP c pp (j + 1) (k + 1) r <;> cases compl c.cr (j + 1) (r - 1) <;> simp [codeOf]

/-! ### The events at the start; the end; the cores -/
theorem dropWhile_all {α : Type} (f : α → Bool) (a b : List α) (ha : ∀ x ∈ a, f x = true) (hb : ∀ x ∈ b, f x = false) : (a ++ b).dropWhile f = b := by
  induction a with
  | nil =>
    cases b with
    | nil => rfl
    | cons x b => simp [List.dropWhile, hb x (by simp)]
  | cons x a ih =>
    simp only [List.cons_append, List.dropWhile, ha x (by simp)]
    exact ih (fun y hy => ha y (by simp [hy]))
theorem rowE_rowQ (p : Inp) (pp : Par) (hE : pp.E = p.evE) (m : Nat) : rowE pp m 1 p.n = rowQ p m p.n := by
  unfold rowE rowQ
  rw [hE]
  congr 1
  funext j
  rw [Nat.add_comm]
theorem allE_shift (p : Inp) (k : Nat) : allE p (k + 1) = rowQ p 0 p.n ++ (List.range k).flatMap fun m => rowQ p (m + 1) p.n := by
  unfold allE
  rw [List.range_succ_eq_map, List.flatMap_cons, List.flatMap_map]
theorem events_first (p : Inp) (c : Cfg) (pp : Par) (hcn : c.n = p.n) (hcl : c.last = p.last) (hk : pp.keep = true) (hE : pp.E = p.evE) (hl : 1 ≤ p.last) : (allE p (p.last + 1)).dropWhile Ev.early = evAt c pp 1 1 := by
  rw [allE_shift, dropWhile_all]
  · unfold evAt restE
    rw [if_pos hk, hcn, hcl, show p.n + 1 - 1 = p.n by omega, rowE_rowQ p pp hE]
    obtain ⟨l, hl'⟩ : ∃ l, p.last = l + 1 := ⟨p.last - 1, by omega⟩
    rw [hl', List.range_succ_eq_map, List.flatMap_cons, List.flatMap_map]
    congr 1
    rw [show l + 1 - 1 = l by omega]
    congr 1
    funext m
    rw [rowE_rowQ p pp hE, show Nat.succ m + 1 = 1 + 1 + m by omega]
  · intro e he
    have h1 : e ∈ allE p 1 := by
      rw [show (1 : Nat) = 0 + 1 from rfl, allE_shift]
      simpa using he
    obtain ⟨m, q, hm, _, _, h2⟩ := mem_allE h1
    have := (mem_evE h2).2.1
    unfold Ev.early
    rw [decide_eq_true_eq]
    omega
  · intro e he
    rw [List.mem_flatMap] at he
    obtain ⟨m, _, hm⟩ := he
    unfold rowQ at hm
    rw [List.mem_flatMap] at hm
    obtain ⟨j, _, hj⟩ := hm
    have := (mem_evE hj).2.1
    unfold Ev.early
    rw [decide_eq_false_iff_not]
    omega
theorem endR_le (c : Cfg) (p : Par) : ∀ (k r : Nat), r + k ≤ c.last + 1 → endR c p k r ≤ c.last
  | 0, r, _ => Nat.le_refl _
  | k + 1, r, h => by
    unfold endR
    split
    · omega
    · exact endR_le c p k (r + 1) (by omega)
theorem cmK_form (c : Cfg) (keep : Bool) (R K last : Nat) (hl : last ≤ 50) (k : Nat) (hn : 1 ≤ c.n) (hk : k < last * c.n) : cmK c keep R K k = none ∨ ∃ t, 1 ≤ t ∧ t ≤ 100 ∧ cmK c keep R K k = some (k % c.n + 1, t) := by
  unfold cmK
  cases keep with
  | false => exact .inl rfl
  | true =>
    simp only [if_true]
    unfold cmAt
    split
    · refine .inr ⟨k / c.n + 1, Nat.succ_le_succ (Nat.zero_le _), ?_, rfl⟩
      have : k / c.n < last := (Nat.div_lt_iff_lt_mul (by omega)).2 hk
      omega
    · exact .inl rfl
theorem stopA_le (p : Inp) (hp : p.ok) : p.stopA ≤ 255 := by
  have := hp.sb
  unfold Inp.stopA
  split
  · have := Nat.mod_le p.stopB (p.n * p.last + 1)
    omega
  · omega
theorem dcA_le (p : Inp) (hp : p.ok) (q : Nat) : 1 ≤ p.dcA q ∧ p.dcA q ≤ 6 := by
  have := hp.l5
  unfold Inp.dcA
  split
  · have := Nat.mod_lt (p.fd (q - 1)) (show 0 < p.last + 1 by omega)
    omega
  · omega
theorem crA_le (p : Inp) (q : Nat) : upTo p.n p.crA q ≤ p.last := by
  unfold upTo Inp.crA
  split
  · split
    · assumption
    · omega
  · omega
end Go.Proofs.Ybulkcawy
