/-
  LawS3859APlay: the run may be played.
-/
import Derived.Test.YbulkcawyS3
import Derived.Test.YbulkcawyPlay
import Derived.Test.YbulkcawyF3E
namespace Go.Proofs.Ybulkcawy
open Go.RowKit
set_option linter.unusedSimpArgs false
set_option linter.unusedVariables false
set_option maxRecDepth 100000
set_option maxHeartbeats 2000000

/-- The type of a block's cells. -/
def typ (w : World) (b : Nat) : Nat := match w.heap[b]? with
  | some (.cells _ t _) => t
  | _ => 0
theorem Row.typ {w : World} {b t n : Nat} {m : Nat → Value} (h : Row w b t n m) : typ w b = t := by
  obtain ⟨cs, h1, _⟩ := h
  unfold Ybulkcawy.typ
  rw [h1]
def cfgOf (p : Inp) (EB s2 sz PL g1 g2 g3 g4 PR OU SE IN : Nat) (fav ev : Value) (reV loV : Nat → Value) : Cfg where
  n := p.n
  last := p.last
  base := sz + 2
  PL := PL
  C := g1
  R := g2
  Lo := g3
  LO := g4
  PR := PR
  OU := OU
  SE := SE
  IN := IN
  L := s2
  fa := fav
  kp := kpV p s2
  ev := evV p ev
  co := coV p s2
  yi := yiV p s2 EB
  me := meV s2
  cr := upTo p.n p.crA
  reV := reV
  loV := loV
  ap := fun q => if q % (p.n + 1) = 0 then s2 + 1 else s2 + 2 + (q % (p.n + 1) - 1)
  dec := p.dcA
def parOf (p : Inp) (EB s2 sz : Nat) (fl : List Nat) : Par where
  keep := p.keep
  KP := s2 + p.n + 3
  CO := s2 + p.n + 4
  Y := s2 + 2 + p.n
  S := EB
  X := sz + 1
  F := sz
  EB := EB
  s := p.stopA
  fl := fl
  mm := mmP p
  lo := loP p
  re := reF p.last (p.clA p.n)
  E := p.evE
/-- The part of a block, by its type. -/
def roleT (EB s2 n g1 g2 SE t b : Nat) : Nat :=
  if t = 59 then 0 else if t = 69 then 2 else if t = 71 then 4 else if t = 29 then 6 else if t = 74 then 9 else if t = 37 then 10 else if t = 67 then 100 + (b + 1 - (s2 + 2)) else if t = 64 then 100 else if t = 92 then (if b = g2 then 7 else 8) else if t = 20 then (if b = SE then 3 else 5) else if t = 3 then (if b = g1 then 1 else if b = s2 + 2 + n then 11 else if b = EB then 12 else 20) else 20
def roleOf (w : World) (EB s2 n sz g1 g2 SE b : Nat) : Nat :=
  if b < EB then 20 else if b = sz then 15 else if b = sz + 1 then 14 else roleT EB s2 n g1 g2 SE (typ w b) b

section
variable {p : Inp} {EB s1 s2 PL g1 g2 g3 g4 PR OU SE IN : Nat} {fav ev : Value} {fl : List Nat} {reV loV : Nat → Value} {w w' : World}
theorem role_row {b t n m : Nat} {f : Nat → Value} (hz : w'.heap.size = n) (h : Row w' b t m f) (hb : EB ≤ b) (k : Nat) : roleOf w' EB s2 k n g1 g2 SE b = roleT EB s2 k g1 g2 SE t b := by
  have h1 := h.lt
  unfold roleOf
  rw [if_neg (by omega), if_neg (by omega), if_neg (by omega), h.typ]

theorem Rn.block (h : Rn p EB s2 PL g1 g2 g3 g4 PR OU SE IN fav ev w w') (hR : Rdy p EB s1 PL g1 g2 g3 g4 PR OU SE IN fav fl reV loV w) {b : Nat} (hb : b < w.heap.size) (h1 : typ w b ≠ 59) (h2 : typ w b ≠ 69) (h3 : typ w b ≠ 71) (h4 : typ w b ≠ 20) : w'.heap[b]? = w.heap[b]? := by
  refine h.only.block b hb ?_
  rintro (e | e | e | e) <;> subst e
  · exact h1 hR.pl.typ
  · exact h2 hR.rPR.typ
  · exact h3 hR.rOU.typ
  · exact h4 hR.rSE.typ
theorem Rn.row (h : Rn p EB s2 PL g1 g2 g3 g4 PR OU SE IN fav ev w w') (hR : Rdy p EB s1 PL g1 g2 g3 g4 PR OU SE IN fav fl reV loV w) {b t k : Nat} {m : Nat → Value} (hr : Row w b t k m) (h1 : t ≠ 59) (h2 : t ≠ 69) (h3 : t ≠ 71) (h4 : t ≠ 20) : Row w' b t k m :=
  hr.of_block (h.block hR hr.lt (by rw [hr.typ]; exact h1) (by rw [hr.typ]; exact h2) (by rw [hr.typ]; exact h3) (by rw [hr.typ]; exact h4))

theorem lay_of (hp : p.ok) (hs2 : s2 = w.heap.size) (hR : Rdy p EB s1 PL g1 g2 g3 g4 PR OU SE IN fav fl reV loV w) (h : Rn p EB s2 PL g1 g2 g3 g4 PR OU SE IN fav ev w w') :
    Lay (cfgOf p EB s2 w'.heap.size PL g1 g2 g3 g4 PR OU SE IN fav ev reV loV) (roleOf w' EB s2 p.n w'.heap.size g1 g2 SE) (parOf p EB s2 w'.heap.size fl) := by
  obtain ⟨sz, hsz⟩ : ∃ sz, sz = w'.heap.size := ⟨_, rfl⟩
  rw [← hsz]
  have l := hR.low
  have u := hR.hi
  have z := hR.sz
  have hn6 := hp.n6
  have hn1 := hp.n1
  have hl5 := hp.l5
  have hS := h.row hR hR.rS (by decide) (by decide) (by decide) (by decide)
  have hC := h.row hR hR.rC (by decide) (by decide) (by decide) (by decide)
  have hRr := h.row hR hR.rR (by decide) (by decide) (by decide) (by decide)
  have hLo := h.row hR hR.rLo (by decide) (by decide) (by decide) (by decide)
  have hIN : Row w' IN 20 p.n (fun _ => .nilIface) := hR.rIN.only h.only (by
    rintro (e | e | e | e)
    · exact row_ne hR.rIN hR.pl (by decide) e
    · exact row_ne hR.rIN hR.rPR (by decide) e
    · exact row_ne hR.rIN hR.rOU (by decide) e
    · exact hR.d3 e.symm)
  have q0 := h.pl.lt
  have q1 := hC.lt
  have q2 := hRr.lt
  have q3 := hLo.lt
  have q4 := h.rPR.lt
  have q5 := h.rOU.lt
  have q6 := h.rSE.lt
  have q7 := hIN.lt
  have q8 := h.rL.lt
  have q9 := h.rPS.lt
  have q10 := h.rY.lt
  have q11 := hS.lt
  have hsz' := hsz.symm
  have hmod : ∀ q, q % (p.n + 1) < p.n + 1 := fun q => Nat.mod_lt _ (by omega)
  refine ⟨⟨?_, ?_, ?_, ?_, ?_, ?_, ?_, ?_, ?_, ?_, ?_, ?_, ?_, ?_, ?_, ?_, ?_, ?_, ?_, ?_, hn6, hl5, fun q => ?_, ?_⟩, fun hk => ?_, fun hk => ?_, ?_, ?_, ?_, ?_, rfl, ?_, hR.flq, hR.fll, fun q => ?_, ?_, ?_, ?_, ?_, hn1, fun q => ?_, fun q => ?_⟩
  · exact role_row hsz' h.pl (by omega) _
  · exact (role_row hsz' hC (by omega) _).trans (by simp [roleT])
  · exact role_row hsz' h.rPR (by omega) _
  · exact (role_row hsz' h.rSE (by omega) _).trans (by simp [roleT])
  · exact role_row hsz' h.rOU (by omega) _
  · exact (role_row hsz' hIN (by omega) _).trans (by have := hR.d3; simp [roleT, this.symm])
  · exact role_row hsz' h.rL (by omega) _
  · exact (role_row hsz' hRr (by omega) _).trans (by simp [roleT])
  · exact (role_row hsz' hLo (by omega) _).trans (by have := hR.d2; simp [roleT, this.symm])
  · intro q
    have hm := hmod q
    simp only [cfgOf]
    by_cases e : q % (p.n + 1) = 0
    · rw [if_pos e, e]
      exact role_row hsz' h.rPS (by omega) _
    · rw [if_neg e]
      refine (role_row hsz' (h.ap (q % (p.n + 1)) (by omega) (by omega)) (by omega) _).trans ?_
      simp [roleT]
      omega
  · simp only [cfgOf]; omega
  · simp only [cfgOf]; omega
  · simp only [cfgOf]; omega
  · simp only [cfgOf]; omega
  · simp only [cfgOf]; omega
  · simp only [cfgOf]; omega
  · simp only [cfgOf]; omega
  · simp only [cfgOf]; omega
  · simp only [cfgOf]; omega
  · intro q
    have hm := hmod q
    simp only [cfgOf]
    by_cases e : q % (p.n + 1) = 0
    · rw [if_pos e]; omega
    · rw [if_neg e]
      have := (h.ap (q % (p.n + 1)) (by omega) (by omega)).lt
      omega
  · have := (dcA_le p hp q).2
    simp only [cfgOf]; omega
  · rcases hR.fa.2 with ⟨e, _⟩ | ⟨g, cap, cur, e, _⟩
    · exact ⟨_, _, _, e⟩
    · exact ⟨_, _, _, e⟩
  · have hk' : p.keep = true := hk
    have k1 := h.kp hk'
    have k2 := h.co hk'
    have k3 := k1.lt
    have k4 := k2.lt
    refine ⟨?_, ?_, ?_, ?_, ?_, ?_, ?_, ?_, ?_, ?_, ?_⟩
    · exact role_row hsz' k1 (by omega) _
    · exact role_row hsz' k2 (by omega) _
    · refine (role_row hsz' h.rY (by omega) _).trans ?_
      have : s2 + 2 + p.n ≠ g1 := by omega
      simp [roleT, this]
    · refine (role_row hsz' hS (by omega) _).trans ?_
      have h1 : EB ≠ g1 := by omega
      have h2 : EB ≠ s2 + 2 + p.n := by omega
      simp [roleT, h1, h2]
    · simp only [cfgOf, parOf]; omega
    · simp only [cfgOf, parOf]; omega
    · simp only [cfgOf, parOf]; omega
    · simp only [cfgOf, parOf]; omega
    · simp only [cfgOf, parOf, kpV, hk', if_true]
    · simp only [cfgOf, parOf, coV, hk', if_true]
    · simp only [cfgOf, parOf, yiV, hk', if_true]
  · have hk' : p.keep = false := hk
    simp only [cfgOf, kpV, hk', Bool.false_eq_true, if_false]
  · show roleOf w' EB s2 p.n sz g1 g2 SE (sz + 1) = 14
    unfold roleOf
    rw [if_neg (by omega), if_neg (by omega), if_pos rfl]
  · show roleOf w' EB s2 p.n sz g1 g2 SE sz = 15
    unfold roleOf
    rw [if_neg (by omega), if_pos rfl]
  · simp only [cfgOf, parOf]; omega
  · simp only [cfgOf, parOf]; omega
  · intro b hb
    by_cases e : b < EB
    · exfalso
      unfold Touch roleOf at hb
      rw [if_pos e] at hb
      simp only [cfgOf] at hb
      omega
    · simp only [parOf]; omega
  · have := mmF_le p hp (dSB p 0 0 0 0 0 0 0 0 0 0 0 .nilIface .nilIface) rfl rfl q
    show mmP p q ≤ 1000000
    unfold mmP
    exact Nat.le_trans this (by decide)
  · have := stopA_le p hp
    simp only [parOf]; omega
  · intro m q e he
    have he' : e ∈ p.evE m q := he
    unfold Inp.evE at he'
    split at he'
    · obtain ⟨j, hj, rfl⟩ := List.mem_map.1 he'
      have h1 := List.mem_range.1 hj
      have h2 := evC_le p m q
      exact ⟨rfl, rfl, by simp only; omega⟩
    · cases he'
  · intro m q
    exact evE_len p m q
  · intro m q hc
    have hc' : compl (upTo p.n p.crA) q m = false := hc
    show p.evE m q = []
    by_cases hq : 1 ≤ q ∧ q ≤ p.n
    · rw [compl_up p q m hq.1 hq.2] at hc'
      unfold Inp.evE
      rw [if_neg (by rw [hc']; decide)]
    · unfold compl upTo at hc'
      rw [if_neg hq] at hc'
      cases hc'
  · have := crA_le p q
    show upTo p.n p.crA q ≤ 100
    omega
  · exact (dcA_le p hp q).1

theorem not_touch_typ {sz : Nat} (hz : sz = w'.heap.size) {b : Nat} (hb : b < sz) (ht : typ w' b = 4 ∨ typ w' b = 3 ∧ b ≠ g1 ∧ b ≠ s2 + 2 + p.n ∧ b ≠ EB) : ¬ Touch (cfgOf p EB s2 sz PL g1 g2 g3 g4 PR OU SE IN fav ev reV loV) (roleOf w' EB s2 p.n sz g1 g2 SE) b := by
  have : roleOf w' EB s2 p.n sz g1 g2 SE b = 20 := by
    unfold roleOf
    by_cases e : b < EB
    · rw [if_pos e]
    · rw [if_neg e, if_neg (by omega), if_neg (by omega)]
      rcases ht with h | ⟨h, h1, h2, h3⟩
      · rw [h]; rfl
      · rw [h]
        simp [roleT, h1, h2, h3]
  unfold Touch
  rw [this]
  simp only [cfgOf]
  omega

theorem before_of (hp : p.ok) (B : Nat) (hs2 : s2 = w.heap.size) (hR : Rdy p EB s1 PL g1 g2 g3 g4 PR OU SE IN fav fl reV loV w) (h : Rn p EB s2 PL g1 g2 g3 g4 PR OU SE IN fav ev w w') (hown : w'.ownsRow B 40 3 ev (allE p (p.last + 1)).length (evsV (allE p (p.last + 1)))) (hevl : ∀ b, ev.ownBlock = some b → b < EB) :
    Before (cfgOf p EB s2 w'.heap.size PL g1 g2 g3 g4 PR OU SE IN fav ev reV loV) (roleOf w' EB s2 p.n w'.heap.size g1 g2 SE) (parOf p EB s2 w'.heap.size fl) (if p.keep then allE p (p.last + 1) else []) w' := by
  have l := hR.low
  have u := hR.hi
  have z := hR.sz
  have hn6 := hp.n6
  have hn1 := hp.n1
  have hl5 := hp.l5
  have hS := h.row hR hR.rS (by decide) (by decide) (by decide) (by decide)
  have hC := h.row hR hR.rC (by decide) (by decide) (by decide) (by decide)
  have hRr := h.row hR hR.rR (by decide) (by decide) (by decide) (by decide)
  have hLo := h.row hR hR.rLo (by decide) (by decide) (by decide) (by decide)
  have hIN : Row w' IN 20 p.n (fun _ => .nilIface) := hR.rIN.only h.only (by
    rintro (e | e | e | e)
    · exact row_ne hR.rIN hR.pl (by decide) e
    · exact row_ne hR.rIN hR.rPR (by decide) e
    · exact row_ne hR.rIN hR.rOU (by decide) e
    · exact hR.d3 e.symm)
  have hpm : ∀ x, x < p.n + 1 → procJ (s2 + 2) (p.n + 1) x = (cfgOf p EB s2 w'.heap.size PL g1 g2 g3 g4 PR OU SE IN fav ev reV loV).procM x := by
    intro x hx
    unfold procJ Cfg.procM
    by_cases e : x = 0
    · rw [if_neg (by omega), if_pos e]
    · rw [if_pos (by omega), if_neg e]
      simp only [cfgOf]
      rw [Nat.mod_eq_of_lt hx, if_neg e]
  refine ⟨rfl, rfl, rfl, h.pl.ext fun x hx => ?_, hC, h.rPR.ext hpm, hRr, hLo, ?_, ?_, ?_, fun hk => (h.kp hk).ext hpm, fun _ => hS, ?_, ?_, hIN, ?_, h.rL, ?_, ?_, ?_, fun hk => h.co hk, fun _ => h.rY, ?_⟩
  · unfold plE
    rcases (by omega : x = 0 ∨ x = 1 ∨ x = 2 ∨ x = 3 ∨ x = 4 ∨ x = 5 ∨ x = 6 ∨ x = 7 ∨ x = 8 ∨ x = 9 ∨ x = 10 ∨ x = 11 ∨ x = 12 ∨ x = 13 ∨ x = 14 ∨ x = 15 ∨ x = 16 ∨ x = 17 ∨ x = 18) with rfl | rfl | rfl | rfl | rfl | rfl | rfl | rfl | rfl | rfl | rfl | rfl | rfl | rfl | rfl | rfl | rfl | rfl | rfl <;> rfl
  · intro q h1 h2
    rcases hR.los q h1 h2 with ⟨e1, e2⟩ | ⟨b, e1, e2, e3⟩
    · exact .inl ⟨e2, e1⟩
    · have e4 := h.row hR e3 (by decide) (by decide) (by decide) (by decide)
      exact .inr ⟨b, e1, e4.lt, not_touch_typ rfl e4.lt (.inl e4.typ), fun k hk => e4.cell k hk⟩
  · intro q h1 h2 h3
    obtain ⟨b, e1, e2, e3⟩ := hR.res q h1 h2 h3
    have e4 := h.row hR e3 (by decide) (by decide) (by decide) (by decide)
    exact .inr ⟨b, e1, e4.lt, not_touch_typ rfl e4.lt (.inl e4.typ), fun k hk => e4.cell k hk⟩
  · have hcell := hR.fa
    rcases hR.fa.2 with ⟨e, e0⟩ | ⟨g, cap, cur, e, g1', g2', _⟩
    · exact .inl ⟨e, List.eq_nil_of_length_eq_zero e0⟩
    · have hgl : g < w.heap.size := (Array.getElem?_eq_some_iff.1 g2').1
      have ht : typ w g = 3 := by unfold typ; rw [g2']
      have hb := h.block hR hgl (by rw [ht]; decide) (by rw [ht]; decide) (by rw [ht]; decide) (by rw [ht]; decide)
      have ht' : typ w' g = 3 := by unfold typ; rw [hb, g2']
      have hso := h.only.size
      refine .inr ⟨g, cap, e, by omega, not_touch_typ rfl (by omega) (.inr ⟨ht', by omega, by omega, by omega⟩), fun k hk => ?_⟩
      rw [e] at hcell
      have := own_cell hcell k hk
      rw [World.cell?_of_block (w := w) (a := ⟨g, k, none⟩) hb, this]
      have hk' : k < fl.length := hk
      show (natsV fl)[k]? = some (.int .i64 ((fl[k]'hk' : Nat) : Int))
      simp [natsV, hk']
  · intro q h1 h2
    have := h.ap q h1 h2
    have e1 : upTo p.n p.dcA q = p.dcA q := by unfold upTo; rw [if_pos ⟨h1, h2⟩]
    rw [e1] at this
    have h2' : q ≤ p.n := h2
    simp only [cfgOf]
    rw [Nat.mod_eq_of_lt (by omega), if_neg (by omega)]
    exact this
  · refine h.rSE.ext fun x hx => ?_
    unfold sentJ
    by_cases e : x = 0
    · rw [if_neg (by omega), if_pos e]
      rfl
    · rw [if_pos (by omega), if_neg e]
  · refine h.rOU.ext fun x hx => ?_
    unfold outJ
    rw [if_pos hx]
    rfl
  · show EvS w' EB s2 (evV p ev) _
    unfold evV
    cases hk : p.keep
    · exact .inl ⟨by simp, by simp⟩
    · simp only [if_true]
      rcases hown.2 with ⟨e, e0⟩ | ⟨g, cap, cur, e, h1, h2, h3, h4, h5, h6⟩
      · exact .inl ⟨e, List.eq_nil_of_length_eq_zero e0⟩
      · have hgE : g < EB := hevl g (by rw [e]; rfl)
        refine .inr ⟨g, 0, cap, e, hgE, by omega, h3, (Array.getElem?_eq_some_iff.1 h2).1, fun k hk => ?_⟩
        rw [e] at hown
        have := evs_cell hown k hk
        simpa using this
  · have := allE_len p hp (p.last + 1)
    split
    · omega
    · simp
  · intro hl
    have hl' : 1 ≤ p.last := hl
    cases hk : p.keep
    · unfold evAt
      have e : (parOf p EB s2 w'.heap.size fl).keep = false := hk
      rw [e]
      rfl
    · simp only [if_true]
      exact events_first p _ _ rfl rfl hk rfl hl'
  · intro q h1 h2
    show (decide (upTo p.n p.crA q = 0) || decide (0 < upTo p.n p.crA q)) = true
    by_cases e : upTo p.n p.crA q = 0
    · simp [e]
    · have : 0 < upTo p.n p.crA q := by omega
      simp [this]
end
end Go.Proofs.Ybulkcawy
