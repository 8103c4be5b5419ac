/-
  LawS3859APlay: what it makes of its input, plainly; failures in a slice.
-/
import Derived.Test.YbulkcawyF3Base
namespace Go.Proofs.Ybulkcawy
open Go.RowKit
set_option linter.unusedSimpArgs false
set_option linter.unusedVariables false

structure Inp where
  n : Nat
  last : Nat
  keep : Bool
  stopB : Nat
  lc : Nat
  lr : Nat
  ld : Nat
  lq : Nat
  lo : Nat
  lm : Nat
  le : Nat
  fc : Nat → Nat
  fr : Nat → Nat
  fd : Nat → Nat
  fq : Nat → Nat
  fo : Nat → Nat
  fm : Nat → Nat
  fe : Nat → Nat

structure Inp.ok (p : Inp) : Prop where
  n1 : 1 ≤ p.n
  n6 : p.n ≤ 6
  l5 : p.last ≤ 5
  sb : p.stopB ≤ 255
  bc : ∀ k, p.fc k ≤ 255
  br : ∀ k, p.fr k ≤ 255
  bd : ∀ k, p.fd k ≤ 255
  bq : ∀ k, p.fq k ≤ 255
  bo : ∀ k, p.fo k ≤ 255
  bm : ∀ k, p.fm k ≤ 255
  be : ∀ k, p.fe k ≤ 255

namespace Inp
variable (p : Inp)
def cA (q : Nat) : Nat := if q - 1 < p.lc then p.fc (q - 1) % (p.last + 2) else 0
def rmA (q : Nat) : Nat := if q - 1 < p.lr then p.fr (q - 1) else 0
def crA (q : Nat) : Nat := if p.cA q ≤ p.last then p.cA q else 0
def reA (q : Nat) : Nat := if 0 < p.cA q ∧ p.cA q ≤ p.last then p.rmA q else 0
def dcA (q : Nat) : Nat := if q - 1 < p.ld then 1 + p.fd (q - 1) % (p.last + 1) else p.last + 1
def clA (k : Nat) : List Fail := (List.range k).flatMap fun j => if 0 < p.cA (j + 1) then [⟨j + 1, p.cA (j + 1), bitsL (p.rmA (j + 1)) p.n⟩] else []
def omR (k : Nat) : Nat := if k < p.lo then 1 + p.fo k % p.last else 1
def omM (k : Nat) : Nat := if k < p.lm then p.fm k else 0
def omA (k : Nat) : Fail := ⟨1 + p.fq k % p.n, p.omR k, bitsL (p.omM k) p.n⟩
def olA (k : Nat) : List Fail := (List.range k).map p.omA
/-- How many omissions there are. -/
def omN : Nat := if 0 < p.last then (if p.lq < 64 then p.lq else 64) else 0
def lostA (k q r i : Nat) : Bool := (p.olA k).any fun o => decide (o.q = q) && decide (o.r = r) && o.xs.contains i
def evC (m q : Nat) : Nat := if m * p.n + q - 1 < p.le then p.fe (m * p.n + q - 1) % 3 else 0
def evE (m q : Nat) : List Ev := if compl p.crA q m then (List.range (p.evC m q)).map (fun j => ⟨q, m, j⟩) else []
def stopA : Nat := if p.keep = true ∧ 0 < p.n * p.last then p.stopB % (p.n * p.last + 1) else 0
end Inp

theorem Inp.clA_succ (p : Inp) (k : Nat) : p.clA (k + 1) = p.clA k ++ (if 0 < p.cA (k + 1) then [⟨k + 1, p.cA (k + 1), bitsL (p.rmA (k + 1)) p.n⟩] else []) := by
  simp [Inp.clA, List.range_succ, List.flatMap_append]
theorem Inp.clA_len (p : Inp) (k : Nat) : (p.clA k).length ≤ k := by
  induction k with
  | zero => simp [Inp.clA]
  | succ k ih => rw [Inp.clA_succ, List.length_append]; split <;> simp <;> omega
theorem Inp.olA_succ (p : Inp) (k : Nat) : p.olA (k + 1) = p.olA k ++ [p.omA k] := by
  simp [Inp.olA, List.range_succ]
theorem Inp.cA_le (p : Inp) (q : Nat) : p.cA q ≤ p.last + 1 := by
  unfold Inp.cA
  split
  · have := Nat.mod_lt (p.fc (q - 1)) (show 0 < p.last + 2 by omega)
    omega
  · omega

/-- The first k entries of a table by f, the rest 0. -/
def upTo (k : Nat) (f : Nat → Nat) (x : Nat) : Nat := if 1 ≤ x ∧ x ≤ k then f x else 0
theorem upTo_succ (q : Nat) (hq : 1 ≤ q) (f : Nat → Nat) (x : Nat) : upTo (q + 1 - 1) f x = if x = q then f q else upTo (q - 1) f x := by
  unfold upTo
  by_cases e : x = q
  · subst e; rw [if_pos ⟨hq, by omega⟩, if_pos rfl]
  · rw [if_neg e]
    by_cases h : 1 ≤ x ∧ x ≤ q - 1
    · rw [if_pos h, if_pos (by omega)]
    · rw [if_neg h, if_neg (by omega)]

/-! ### Failures in a slice that the function owns -/
def failC (fs : List Fail) (tvs : List Value) : List Value := (List.zipWith (fun (f : Fail) (tv : Value) => ([.int .i64 f.q, .int .i64 f.r, tv] : List Value)) fs tvs).flatten
theorem failC_snoc (fs : List Fail) (tvs : List Value) (h : tvs.length = fs.length) (f : Fail) (tv : Value) : failC (fs ++ [f]) (tvs ++ [tv]) = failC fs tvs ++ [.int .i64 f.q, .int .i64 f.r, tv] := by
  unfold failC
  rw [List.zipWith_append h.symm, List.flatten_append]
  simp
theorem failC_len (fs : List Fail) (tvs : List Value) (h : tvs.length = fs.length) : (failC fs tvs).length = 3 * fs.length := by
  unfold failC
  induction fs generalizing tvs with
  | nil => simp
  | cons f fs ih =>
    cases tvs with
    | nil => simp at h
    | cons tv tvs =>
      simp only [List.zipWith_cons_cons, List.flatten_cons, List.length_append, List.length_cons, List.length_nil]
      rw [ih tvs (by simpa using h)]
      omega
theorem failC_at (fs : List Fail) (tvs : List Value) (h : tvs.length = fs.length) (k : Nat) (hk : k < fs.length) : (failC fs tvs)[k * 3]? = some (.int .i64 fs[k].q) ∧ (failC fs tvs)[k * 3 + 1]? = some (.int .i64 fs[k].r) ∧ (failC fs tvs)[k * 3 + 2]? = some (tvs[k]'(by omega)) := by
  unfold failC
  induction fs generalizing tvs k with
  | nil => simp at hk
  | cons f fs ih =>
    cases tvs with
    | nil => simp at h
    | cons tv tvs =>
      simp only [List.zipWith_cons_cons, List.flatten_cons]
      cases k with
      | zero => simp
      | succ k =>
        have := ih tvs (by simpa using h) k (by simpa using hk)
        rw [show (k + 1) * 3 = k * 3 + 3 by omega]
        refine ⟨?_, ?_, ?_⟩
        · rw [List.getElem?_append_right (by simp)]; simpa using this.1
        · rw [show k * 3 + 3 + 1 = k * 3 + 1 + 3 by omega, List.getElem?_append_right (by simp)]; simpa using this.2.1
        · rw [show k * 3 + 3 + 2 = k * 3 + 2 + 3 by omega, List.getElem?_append_right (by simp)]; simpa using this.2.2

/-- The slice v, of elements of type e, holds the failures fs. -/
def FailO (w : World) (B e : Nat) (v : Value) (fs : List Fail) : Prop := ∃ tvs : List Value, tvs.length = fs.length ∧ w.ownsRow B e 3 v fs.length (failC fs tvs) ∧ ∀ k (hk : k < fs.length) (hk' : k < tvs.length), w.ownsRow B 3 1 tvs[k] fs[k].xs.length (natsV fs[k].xs)
theorem FailO.nil (w : World) (B e : Nat) : FailO w B e (.slice none 0 0) [] := ⟨[], rfl, ⟨rfl, .inl ⟨rfl, rfl⟩⟩, fun k hk => by simp at hk⟩
theorem FailO.onlyT {w w' : World} {B B' e : Nat} {ts : List Nat} {v : Value} {fs : List Fail} (h : FailO w B e v fs) (ho : OnlyT B' ts w w') (h1 : e ∉ ts) (h3 : 3 ∉ ts) : FailO w' B e v fs := by
  obtain ⟨tvs, a1, a2, a3⟩ := h
  exact ⟨tvs, a1, own_onlyT a2 ho h1, fun k hk hk' => own_onlyT (a3 k hk hk') ho h3⟩
theorem FailO.form {w : World} {B e : Nat} {v : Value} {fs : List Fail} (h : FailO w B e v fs) : ∃ a cap, v = .slice a fs.length cap := by
  obtain ⟨tvs, _, a2, _⟩ := h
  rcases a2.2 with ⟨rfl, h⟩ | ⟨g, cap, cur, rfl, _⟩
  · exact ⟨none, 0, by rw [h]⟩
  · exact ⟨_, _, rfl⟩
theorem ints_of_own {w : World} {B EB : Nat} {v : Value} {xs : List Nat} (h : w.ownsRow B 3 1 v xs.length (natsV xs)) (hs : w.heap.size ≤ EB) : IntsS w EB v xs := by
  rcases h.2 with ⟨rfl, hn⟩ | ⟨g, cap, cur, rfl, h1, h2, _⟩
  · exact .inl ⟨rfl, List.eq_nil_of_length_eq_zero hn⟩
  · have hg := (Array.getElem?_eq_some_iff.1 h2).1
    refine .inr ⟨g, cap, rfl, by omega, hg, fun k hk => ?_⟩
    rw [own_cell h k hk]
    simp [natsV, hk]
theorem FailO.toS {w : World} {B e EB : Nat} {v : Value} {fs : List Fail} (h : FailO w B e v fs) (hs : w.heap.size ≤ EB) : FailS w EB v fs := by
  obtain ⟨tvs, a1, a2, a3⟩ := h
  rcases a2.2 with ⟨rfl, hn⟩ | ⟨g, cap, cur, rfl, h1, h2, h3, h4, h5, h6⟩
  · exact .inl ⟨rfl, List.eq_nil_of_length_eq_zero hn⟩
  · have hg := (Array.getElem?_eq_some_iff.1 h2).1
    refine .inr ⟨g, cap, rfl, by omega, hg, fun k hk => ?_⟩
    have hcell : ∀ x, x < fs.length * 3 → w.cell? ⟨g, x, none⟩ = (failC fs tvs)[x]? := fun x hx => by
      rw [← h6, List.getElem?_take_of_lt hx]
      simp [World.cell?, h2]
    obtain ⟨f1, f2, f3⟩ := failC_at fs tvs a1 k hk
    refine ⟨by rw [hcell _ (by omega)]; exact f1, by rw [hcell _ (by omega)]; exact f2, tvs[k]'(by omega), by rw [hcell _ (by omega)]; exact f3, ints_of_own (a3 k hk (by omega)) hs⟩
end Go.Proofs.Ybulkcawy
