/-
  failurePattern.set: what it reads and what it writes.
-/
import Derived.Test.YbulkcawyPlay
import Derived.Lib.SliceRun
namespace Go.Proofs.Ybulkcawy
open Go.RowKit
set_option linter.unusedSimpArgs false
set_option linter.unusedVariables false

/-- A failure: a crash or an omission: its process, its round, the processes it names. -/
structure Fail where
  q : Nat
  r : Nat
  xs : List Nat

def IntsS (w : World) (EB : Nat) (v : Value) (xs : List Nat) : Prop :=
  (v = .slice none 0 0 ∧ xs = []) ∨ ∃ b cap, v = .slice (some ⟨b, 0, none⟩) xs.length cap ∧ b < EB ∧ b < w.heap.size ∧ ∀ k (hk : k < xs.length), w.cell? ⟨b, k, none⟩ = some (.int .i64 xs[k])
def FailS (w : World) (EB : Nat) (v : Value) (fs : List Fail) : Prop :=
  (v = .slice none 0 0 ∧ fs = []) ∨ ∃ b cap, v = .slice (some ⟨b, 0, none⟩) fs.length cap ∧ b < EB ∧ b < w.heap.size ∧ ∀ k (hk : k < fs.length), w.cell? ⟨b, k * 3, none⟩ = some (.int .i64 fs[k].q) ∧ w.cell? ⟨b, k * 3 + 1, none⟩ = some (.int .i64 fs[k].r) ∧ ∃ tv, w.cell? ⟨b, k * 3 + 2, none⟩ = some tv ∧ IntsS w EB tv fs[k].xs

theorem IntsS.form {w : World} {EB : Nat} {v : Value} {xs : List Nat} (h : IntsS w EB v xs) : ∃ a cap, v = .slice a xs.length cap := by
  rcases h with ⟨rfl, rfl⟩ | ⟨b, cap, rfl, _⟩
  · exact ⟨none, 0, rfl⟩
  · exact ⟨_, _, rfl⟩
theorem FailS.form {w : World} {EB : Nat} {v : Value} {fs : List Fail} (h : FailS w EB v fs) : ∃ a cap, v = .slice a fs.length cap := by
  rcases h with ⟨rfl, rfl⟩ | ⟨b, cap, rfl, _⟩
  · exact ⟨none, 0, rfl⟩
  · exact ⟨_, _, rfl⟩
theorem IntsS.only {w w' : World} {EB : Nat} {v : Value} {xs : List Nat} {S : Nat → Prop} (h : IntsS w EB v xs) (ho : Only S w w') (hS : ∀ b, b < w.heap.size → S b → EB ≤ b) : IntsS w' EB v xs := by
  rcases h with h | ⟨b, cap, h1, h2, h3, h4⟩
  · exact .inl h
  · exact .inr ⟨b, cap, h1, h2, Nat.lt_of_lt_of_le h3 ho.size, fun k hk => by rw [cell_of_only ho h3 (fun e => by have := hS b h3 e; omega)]; exact h4 k hk⟩
theorem FailS.only {w w' : World} {EB : Nat} {v : Value} {fs : List Fail} {S : Nat → Prop} (h : FailS w EB v fs) (ho : Only S w w') (hS : ∀ b, b < w.heap.size → S b → EB ≤ b) : FailS w' EB v fs := by
  rcases h with h | ⟨b, cap, h1, h2, h3, h4⟩
  · exact .inl h
  · refine .inr ⟨b, cap, h1, h2, Nat.lt_of_lt_of_le h3 ho.size, fun k hk => ?_⟩
    have hc : ∀ x, w'.cell? ⟨b, x, none⟩ = w.cell? ⟨b, x, none⟩ := fun x => cell_of_only ho h3 (fun e => by have := hS b h3 e; omega)
    rw [hc, hc, hc]
    obtain ⟨a1, a2, tv, a3, a4⟩ := h4 k hk
    exact ⟨a1, a2, tv, a3, a4.only ho hS⟩

/-- Where everything lies while 'set' runs. -/
structure SB where
  P : Nat
  o : Nat
  tP : Nat
  NP : Nat
  n : Nat
  last : Nat
  C : Nat
  R : Nat
  Lo : Nat
  LO : Nat
  B : Nat
  EB : Nat
  hi : Nat
  mP : Nat → Value
  cv : Value
  ov : Value
  cl : List Fail
  ol : List Fail

structure SBok (d : SB) (role : Nat → Nat) : Prop where
  P : role d.P = 0
  C : role d.C = 1
  R : role d.R = 2
  Lo : role d.Lo = 3
  LO : role d.LO = 4
  B : role d.B = 5
  bP : d.P < d.hi
  bC : d.C < d.hi
  bR : d.R < d.hi
  bLo : d.Lo < d.hi
  bLO : d.LO < d.hi
  bB : d.B < d.hi
  eP : d.EB ≤ d.P
  eC : d.EB ≤ d.C
  eR : d.EB ≤ d.R
  eLo : d.EB ≤ d.Lo
  eLO : d.EB ≤ d.LO
  eB : d.EB ≤ d.B
  o5 : d.o + 5 < d.NP
  m0 : d.mP d.o = .int .i64 d.last
  m1 : d.mP (d.o + 1) = .slice (some ⟨d.C, 0, none⟩) (d.n + 1) (d.n + 1)
  m2 : d.mP (d.o + 2) = .slice (some ⟨d.R, 0, none⟩) (d.n + 1) (d.n + 1)
  m3 : d.mP (d.o + 3) = .slice (some ⟨d.Lo, 0, none⟩) (d.n + 1) (d.n + 1)
  m5 : d.mP (d.o + 5) = .slice (some ⟨d.LO, 0, none⟩) (d.n + 1) (d.n + 1)
  n6 : d.n ≤ 6
  n1 : 1 ≤ d.n
  l5 : d.last ≤ 5
  clq : ∀ c ∈ d.cl, 1 ≤ c.q ∧ c.q ≤ d.n ∧ 1 ≤ c.r ∧ c.r ≤ 100 ∧ c.xs.length ≤ 1000 ∧ ∀ i ∈ c.xs, i ≤ d.n
  cld : d.cl.Pairwise (fun a b => a.q ≠ b.q)
  cln : d.cl.length ≤ 1000
  olq : ∀ c ∈ d.ol, 1 ≤ c.q ∧ c.q ≤ d.n ∧ 1 ≤ c.r ∧ c.r ≤ d.last ∧ c.xs.length ≤ 1000 ∧ ∀ i ∈ c.xs, 1 ≤ i ∧ i ≤ d.n
  oln : d.ol.length ≤ 1000

def natsV (xs : List Nat) : List Value := xs.map (fun (x : Nat) => Value.int .i64 (x : Int))

structure PS (d : SB) (w : World) (fav : Value) (fl : List Nat) (cr : Nat → Nat) (reV : Nat → Value) (re : Nat → Nat → Bool) (loV : Nat → Value) (lov mm : Nat → Nat) (lo : Nat → Nat → Bool) : Prop where
  P : Row w d.P d.tP d.NP (fun k => if k = d.o + 4 then fav else d.mP k)
  fa : w.ownsRow d.hi 3 1 fav fl.length (natsV fl)
  C : Row w d.C 3 (d.n + 1) (fun k => .int .i64 (cr k))
  R : Row w d.R 92 (d.n + 1) reV
  Lo : Row w d.Lo 92 (d.n + 1) loV
  LO : Row w d.LO 3 (d.n + 1) (fun k => .int .i64 (lov k))
  B : Row w d.B 62 2 (fun k => if k = 0 then d.cv else d.ov)
  cs : FailS w d.EB d.cv d.cl
  os : FailS w d.EB d.ov d.ol
  sz : d.hi ≤ w.heap.size
  res : ∀ q, 1 ≤ q → q ≤ d.n → reV q = .slice none 0 0 ∨ ∃ b, reV q = .slice (some ⟨b, 0, none⟩) (d.n + 1) (d.n + 1) ∧ d.hi ≤ b ∧ fav.ownBlock ≠ some b ∧ Row w b 4 (d.n + 1) (fun i => .bool (re q i))
  los : ∀ q, 1 ≤ q → q ≤ d.n → (mm q = 0 ∧ loV q = .slice none 0 0) ∨ ∃ b, loV q = .slice (some ⟨b, 0, none⟩) (mm q) (mm q) ∧ d.hi ≤ b ∧ fav.ownBlock ≠ some b ∧ Row w b 4 (mm q) (fun x => .bool (lo q x))
  inj1 : ∀ q q' b, 1 ≤ q → q ≤ d.n → 1 ≤ q' → q' ≤ d.n → q ≠ q' → (loV q).ownBlock = some b → (loV q').ownBlock ≠ some b
  inj2 : ∀ q q' b, 1 ≤ q → q ≤ d.n → 1 ≤ q' → q' ≤ d.n → (reV q).ownBlock = some b → (loV q').ownBlock ≠ some b

section
variable {d : SB} {role : Nat → Nat} {w w' : World} {fav fav' : Value} {fl fl' : List Nat} {cr cr' : Nat → Nat} {reV reV' : Nat → Value} {re re' : Nat → Nat → Bool} {loV loV' : Nat → Value} {lov lov' mm mm' : Nat → Nat} {lo lo' : Nat → Nat → Bool}

theorem PS.fa_block (h : PS d w fav fl cr reV re loV lov mm lo) {b : Nat} (hb : fav.ownBlock = some b) : d.hi ≤ b ∧ b < w.heap.size := own_block_lt h.fa hb

/-- What a step leaves as it was. -/
theorem PS.others (h : PS d w fav fl cr reV re loV lov mm lo) (ok : SBok d role) {S : Nat → Prop} (ho : Only S w w') (ρ : Nat → Prop) (Z : Nat → Prop) (hS : ∀ b, b < w.heap.size → S b → (b < d.hi ∧ d.EB ≤ b ∧ ρ (role b)) ∨ (d.hi ≤ b ∧ Z b)) :
    (¬ ρ 0 → Row w' d.P d.tP d.NP (fun k => if k = d.o + 4 then fav else d.mP k)) ∧ (¬ ρ 1 → Row w' d.C 3 (d.n + 1) (fun k => .int .i64 (cr k))) ∧ (¬ ρ 2 → Row w' d.R 92 (d.n + 1) reV) ∧ (¬ ρ 3 → Row w' d.Lo 92 (d.n + 1) loV) ∧ (¬ ρ 4 → Row w' d.LO 3 (d.n + 1) (fun k => .int .i64 (lov k))) ∧
    (¬ ρ 5 → Row w' d.B 62 2 (fun k => if k = 0 then d.cv else d.ov)) ∧ FailS w' d.EB d.cv d.cl ∧ FailS w' d.EB d.ov d.ol ∧ d.hi ≤ w'.heap.size ∧ (∀ b t n m, d.hi ≤ b → ¬ Z b → Row w b t n m → Row w' b t n m) := by
  have key : ∀ b r, b < d.hi → role b = r → ¬ ρ r → ¬ S b := fun b r h1 h2 h3 h4 => by
    rcases hS b (by have := h.sz; omega) h4 with h5 | h5
    · exact h3 (by rw [← h2]; exact h5.2.2)
    · omega
  have hEB : ∀ b, b < w.heap.size → S b → d.EB ≤ b := fun b h1 h2 => by
    rcases hS b h1 h2 with h5 | h5
    · exact h5.2.1
    · have := ok.eP
      have := ok.bP
      omega
  refine ⟨fun hr => h.P.only ho (key _ _ ok.bP ok.P hr), fun hr => h.C.only ho (key _ _ ok.bC ok.C hr), fun hr => h.R.only ho (key _ _ ok.bR ok.R hr), fun hr => h.Lo.only ho (key _ _ ok.bLo ok.Lo hr), fun hr => h.LO.only ho (key _ _ ok.bLO ok.LO hr), fun hr => h.B.only ho (key _ _ ok.bB ok.B hr), h.cs.only ho hEB, h.os.only ho hEB, Nat.le_trans h.sz ho.size, fun b t n m hb hz hr => hr.only ho (fun hs => ?_)⟩
  rcases hS b hr.lt hs with h5 | h5
  · omega
  · exact hz h5.2

theorem PS.same (h : PS d w fav fl cr reV re loV lov mm lo) (ok : SBok d role) (ho : Only (fun _ => False) w w') : PS d w' fav fl cr reV re loV lov mm lo := by
  obtain ⟨a1, a2, a3, a4, a5, a6, a7, a8, a9, a10⟩ := h.others ok ho (fun _ => False) (fun _ => False) (fun _ _ e => e.elim)
  refine ⟨a1 (fun e => e), own_of_block h.fa (fun b hb => ho.block b (h.fa_block hb).2 (fun e => e)), a2 (fun e => e), a3 (fun e => e), a4 (fun e => e), a5 (fun e => e), a6 (fun e => e), a7, a8, a9, fun q h1 h2 => ?_, fun q h1 h2 => ?_, h.inj1, h.inj2⟩
  · rcases h.res q h1 h2 with e | ⟨b, e1, e2, e3, e4⟩
    · exact .inl e
    · exact .inr ⟨b, e1, e2, e3, a10 b _ _ _ e2 (fun e => e) e4⟩
  · rcases h.los q h1 h2 with e | ⟨b, e1, e2, e3, e4⟩
    · exact .inl e
    · exact .inr ⟨b, e1, e2, e3, a10 b _ _ _ e2 (fun e => e) e4⟩

theorem PS.setC (h : PS d w fav fl cr reV re loV lov mm lo) (ok : SBok d role) (ho : Only (fun b => b = d.C) w w') (hr : Row w' d.C 3 (d.n + 1) (fun k => .int .i64 (cr' k))) : PS d w' fav fl cr' reV re loV lov mm lo := by
  obtain ⟨a1, a2, a3, a4, a5, a6, a7, a8, a9, a10⟩ := h.others ok ho (fun r => r = 1) (fun _ => False) (fun b _ e => .inl (by rw [e]; exact ⟨ok.bC, ok.eC, ok.C⟩))
  refine ⟨a1 (by decide), own_of_block h.fa (fun b hb => ho.block b (h.fa_block hb).2 (fun e => by have := (h.fa_block hb).1; have := ok.bC; omega)), hr, a3 (by decide), a4 (by decide), a5 (by decide), a6 (by decide), a7, a8, a9, fun q h1 h2 => ?_, fun q h1 h2 => ?_, h.inj1, h.inj2⟩
  · rcases h.res q h1 h2 with e | ⟨b, e1, e2, e3, e4⟩
    · exact .inl e
    · exact .inr ⟨b, e1, e2, e3, a10 b _ _ _ e2 (fun e => e) e4⟩
  · rcases h.los q h1 h2 with e | ⟨b, e1, e2, e3, e4⟩
    · exact .inl e
    · exact .inr ⟨b, e1, e2, e3, a10 b _ _ _ e2 (fun e => e) e4⟩

theorem PS.setLO (h : PS d w fav fl cr reV re loV lov mm lo) (ok : SBok d role) (ho : Only (fun b => b = d.LO) w w') (hr : Row w' d.LO 3 (d.n + 1) (fun k => .int .i64 (lov' k))) : PS d w' fav fl cr reV re loV lov' mm lo := by
  obtain ⟨a1, a2, a3, a4, a5, a6, a7, a8, a9, a10⟩ := h.others ok ho (fun r => r = 4) (fun _ => False) (fun b _ e => .inl (by rw [e]; exact ⟨ok.bLO, ok.eLO, ok.LO⟩))
  refine ⟨a1 (by decide), own_of_block h.fa (fun b hb => ho.block b (h.fa_block hb).2 (fun e => by have := (h.fa_block hb).1; have := ok.bLO; omega)), a2 (by decide), a3 (by decide), a4 (by decide), hr, a6 (by decide), a7, a8, a9, fun q h1 h2 => ?_, fun q h1 h2 => ?_, h.inj1, h.inj2⟩
  · rcases h.res q h1 h2 with e | ⟨b, e1, e2, e3, e4⟩
    · exact .inl e
    · exact .inr ⟨b, e1, e2, e3, a10 b _ _ _ e2 (fun e => e) e4⟩
  · rcases h.los q h1 h2 with e | ⟨b, e1, e2, e3, e4⟩
    · exact .inl e
    · exact .inr ⟨b, e1, e2, e3, a10 b _ _ _ e2 (fun e => e) e4⟩

theorem PS.setFa (h : PS d w fav fl cr reV re loV lov mm lo) (ok : SBok d role) (ho : Only (fun b => b = d.P ∨ fav.ownBlock = some b) w w') (hn : NewG w fav.ownBlock fav'.ownBlock) (hr : Row w' d.P d.tP d.NP (fun k => if k = d.o + 4 then fav' else d.mP k)) (hfa : w'.ownsRow d.hi 3 1 fav' fl'.length (natsV fl')) : PS d w' fav' fl' cr reV re loV lov mm lo := by
  obtain ⟨a1, a2, a3, a4, a5, a6, a7, a8, a9, a10⟩ := h.others ok ho (fun r => r = 0) (fun b => fav.ownBlock = some b) (fun b _ e => by
    rcases e with e | e
    · exact .inl (by rw [e]; exact ⟨ok.bP, ok.eP, ok.P⟩)
    · exact .inr ⟨(h.fa_block e).1, e⟩)
  have hne : ∀ b t n m, fav.ownBlock ≠ some b → Row w b t n m → fav'.ownBlock ≠ some b := fun b t n m h1 h2 h3 => by
    rcases hn b h3 with e | e
    · exact h1 e
    · have := h2.lt
      omega
  refine ⟨hr, hfa, a2 (by decide), a3 (by decide), a4 (by decide), a5 (by decide), a6 (by decide), a7, a8, a9, fun q h1 h2 => ?_, fun q h1 h2 => ?_, h.inj1, h.inj2⟩
  · rcases h.res q h1 h2 with e | ⟨b, e1, e2, e3, e4⟩
    · exact .inl e
    · exact .inr ⟨b, e1, e2, hne b _ _ _ e3 e4, a10 b _ _ _ e2 e3 e4⟩
  · rcases h.los q h1 h2 with e | ⟨b, e1, e2, e3, e4⟩
    · exact .inl e
    · exact .inr ⟨b, e1, e2, hne b _ _ _ e3 e4, a10 b _ _ _ e2 e3 e4⟩

/-- A new table of what q reaches. -/
theorem PS.setR (h : PS d w fav fl cr reV re loV lov mm lo) (ok : SBok d role) (q : Nat) (hq : 1 ≤ q) (hq' : q ≤ d.n) (b : Nat) (hb : w.heap.size ≤ b) (ho : Only (fun x => x = d.R) w w') (hr : Row w' d.R 92 (d.n + 1) (fun k => if k = q then .slice (some ⟨b, 0, none⟩) (d.n + 1) (d.n + 1) else reV k)) (f : Nat → Bool) (hrb : Row w' b 4 (d.n + 1) (fun i => .bool (f i))) :
    PS d w' fav fl cr (fun k => if k = q then .slice (some ⟨b, 0, none⟩) (d.n + 1) (d.n + 1) else reV k) (fun k => if k = q then f else re k) loV lov mm lo := by
  obtain ⟨a1, a2, a3, a4, a5, a6, a7, a8, a9, a10⟩ := h.others ok ho (fun r => r = 2) (fun _ => False) (fun b _ e => .inl (by rw [e]; exact ⟨ok.bR, ok.eR, ok.R⟩))
  refine ⟨a1 (by decide), own_of_block h.fa (fun b hb => ho.block b (h.fa_block hb).2 (fun e => by have := (h.fa_block hb).1; have := ok.bR; omega)), a2 (by decide), hr, a4 (by decide), a5 (by decide), a6 (by decide), a7, a8, a9, fun k h1 h2 => ?_, fun q h1 h2 => ?_, h.inj1, fun k q' b' h1 h2 h3 h4 h5 h6 => ?_⟩
  · by_cases e : k = q
    · subst e
      simp only [if_true]
      refine .inr ⟨b, rfl, by have := h.sz; omega, fun e => ?_, hrb⟩
      have := h.fa_block e
      omega
    · simp only [e, if_false]
      rcases h.res k h1 h2 with e | ⟨b, e1, e2, e3, e4⟩
      · exact .inl e
      · exact .inr ⟨b, e1, e2, e3, a10 b _ _ _ e2 (fun e => e) e4⟩
  · rcases h.los q h1 h2 with e | ⟨b, e1, e2, e3, e4⟩
    · exact .inl e
    · exact .inr ⟨b, e1, e2, e3, a10 b _ _ _ e2 (fun e => e) e4⟩
  · by_cases e : k = q
    · subst e
      simp [Value.ownBlock] at h5
      subst h5
      rcases h.los q' h3 h4 with e | ⟨b', e1, e2, e3, e4⟩
      · rw [e.2] at h6; simp [Value.ownBlock] at h6
      · rw [e1] at h6
        simp [Value.ownBlock] at h6
        have := e4.lt
        omega
    · simp only [e, if_false] at h5
      exact h.inj2 k q' b' h1 h2 h3 h4 h5 h6

/-- A new table of what q loses. -/
theorem PS.setLo (h : PS d w fav fl cr reV re loV lov mm lo) (ok : SBok d role) (q : Nat) (hq : 1 ≤ q) (hq' : q ≤ d.n) (b m : Nat) (hb : w.heap.size ≤ b) (ho : Only (fun x => x = d.Lo) w w') (hr : Row w' d.Lo 92 (d.n + 1) (fun k => if k = q then .slice (some ⟨b, 0, none⟩) m m else loV k)) (f : Nat → Bool) (hrb : Row w' b 4 m (fun i => .bool (f i))) :
    PS d w' fav fl cr reV re (fun k => if k = q then .slice (some ⟨b, 0, none⟩) m m else loV k) lov (fun k => if k = q then m else mm k) (fun k => if k = q then f else lo k) := by
  obtain ⟨a1, a2, a3, a4, a5, a6, a7, a8, a9, a10⟩ := h.others ok ho (fun r => r = 3) (fun _ => False) (fun b _ e => .inl (by rw [e]; exact ⟨ok.bLo, ok.eLo, ok.Lo⟩))
  have hold : ∀ k b', 1 ≤ k → k ≤ d.n → (loV k).ownBlock = some b' → b' < w.heap.size := fun k b' h1 h2 h3 => by
    rcases h.los k h1 h2 with e | ⟨b2, e1, e2, e3, e4⟩
    · rw [e.2] at h3; simp [Value.ownBlock] at h3
    · rw [e1] at h3
      simp [Value.ownBlock] at h3
      have := e4.lt
      omega
  have hold2 : ∀ k b', 1 ≤ k → k ≤ d.n → (reV k).ownBlock = some b' → b' < w.heap.size := fun k b' h1 h2 h3 => by
    rcases h.res k h1 h2 with e | ⟨b2, e1, e2, e3, e4⟩
    · rw [e] at h3; simp [Value.ownBlock] at h3
    · rw [e1] at h3
      simp [Value.ownBlock] at h3
      have := e4.lt
      omega
  refine ⟨a1 (by decide), own_of_block h.fa (fun b hb => ho.block b (h.fa_block hb).2 (fun e => by have := (h.fa_block hb).1; have := ok.bLo; omega)), a2 (by decide), a3 (by decide), hr, a5 (by decide), a6 (by decide), a7, a8, a9, fun k h1 h2 => ?_, fun k h1 h2 => ?_, fun k k' b' h1 h2 h3 h4 h5 h6 h7 => ?_, fun k q' b' h1 h2 h3 h4 h5 h6 => ?_⟩
  · rcases h.res k h1 h2 with e | ⟨b, e1, e2, e3, e4⟩
    · exact .inl e
    · exact .inr ⟨b, e1, e2, e3, a10 b _ _ _ e2 (fun e => e) e4⟩
  · by_cases e : k = q
    · subst e
      simp only [if_true]
      refine .inr ⟨b, rfl, by have := h.sz; omega, fun e => ?_, hrb⟩
      have := h.fa_block e
      omega
    · simp only [e, if_false]
      rcases h.los k h1 h2 with e | ⟨b, e1, e2, e3, e4⟩
      · exact .inl e
      · exact .inr ⟨b, e1, e2, e3, a10 b _ _ _ e2 (fun e => e) e4⟩
  · by_cases e : k = q
    · have e' : k' ≠ q := fun e' => h5 (e.trans e'.symm)
      simp only [e, e', if_true, if_false] at h6 h7
      simp [Value.ownBlock] at h6
      have := hold k' b' h3 h4 h7
      omega
    · by_cases e' : k' = q
      · simp only [e, e', if_true, if_false] at h6 h7
        simp [Value.ownBlock] at h7
        have := hold k b' h1 h2 h6
        omega
      · simp only [e, e', if_false] at h6 h7
        exact h.inj1 k k' b' h1 h2 h3 h4 h5 h6 h7
  · by_cases e : q' = q
    · simp only [e, if_true] at h6
      simp [Value.ownBlock] at h6
      have := hold2 k b' h1 h2 h5
      omega
    · simp only [e, if_false] at h6
      exact h.inj2 k q' b' h1 h2 h3 h4 h5 h6

/-- More of q's messages are lost. -/
theorem PS.setLoB (h : PS d w fav fl cr reV re loV lov mm lo) (ok : SBok d role) (q : Nat) (hq : 1 ≤ q) (hq' : q ≤ d.n) (b : Nat) (hv : loV q = .slice (some ⟨b, 0, none⟩) (mm q) (mm q)) (ho : Only (fun x => x = b) w w') (f : Nat → Bool) (hrb : Row w' b 4 (mm q) (fun i => .bool (f i))) :
    PS d w' fav fl cr reV re loV lov mm (fun k => if k = q then f else lo k) := by
  have hbb : d.hi ≤ b ∧ fav.ownBlock ≠ some b := by
    rcases h.los q hq hq' with e | ⟨b2, e1, e2, e3, e4⟩
    · rw [hv] at e; cases e.2
    · rw [hv] at e1
      injection e1 with e1
      injection e1 with e1
      injection e1 with e1
      subst e1
      exact ⟨e2, e3⟩
  have hob : (loV q).ownBlock = some b := by rw [hv]; rfl
  obtain ⟨a1, a2, a3, a4, a5, a6, a7, a8, a9, a10⟩ := h.others ok ho (fun _ => False) (fun x => x = b) (fun x _ e => .inr ⟨by omega, e⟩)
  refine ⟨a1 (by simp), own_of_block h.fa (fun x hx => ho.block x (h.fa_block hx).2 (fun e => hbb.2 (by rw [← e]; exact hx))), a2 (by simp), a3 (by simp), a4 (by simp), a5 (by simp), a6 (by simp), a7, a8, a9, fun k h1 h2 => ?_, fun k h1 h2 => ?_, h.inj1, h.inj2⟩
  · rcases h.res k h1 h2 with e | ⟨b2, e1, e2, e3, e4⟩
    · exact .inl e
    · exact .inr ⟨b2, e1, e2, e3, a10 b2 _ _ _ e2 (fun e => h.inj2 k q b2 h1 h2 hq hq' (by rw [e1]; rfl) (by rw [e]; exact hob)) e4⟩
  · by_cases e : k = q
    · subst e
      simp only [if_true]
      exact .inr ⟨b, hv, hbb.1, hbb.2, hrb⟩
    · simp only [e, if_false]
      rcases h.los k h1 h2 with e' | ⟨b2, e1, e2, e3, e4⟩
      · exact .inl e'
      · exact .inr ⟨b2, e1, e2, e3, a10 b2 _ _ _ e2 (fun e' => h.inj1 k q b2 h1 h2 hq hq' e (by rw [e1]; rfl) (by rw [e']; exact hob)) e4⟩
end

theorem gen_both {P : Program} {cd : Code} {Q : Exit → Act → World → Prop} {w : World} {T : Array Value} (R : Array Value → World → Prop) (hR : R T w) (h : ∀ U w', R U w' → cd.wp P Q ⟨U, []⟩ w') : cd.wp P Q ⟨T, []⟩ w := h T w hR

/-! ### clear -/
theorem clearRow (t e : TypeId) (ty : TypeId) (z : Value) (ht : Yba.prog.underlying t = some (.slice e)) (hv : ∀ w, (zeroValue e).run Yba.prog w = .ok z w) (hz : z.cells = #[z]) (h1 : z.oneCell' = true) (w : World) (b n c : Nat) (hn : 0 < n) (te : TypeId) (m : Nat → Value) (hr : Row w b te n m) :
    ∃ w', (Builtin.clear_ #[t] ty #[.slice (some ⟨b, 0, none⟩) n c]).run Yba.prog w = .ok (.tuple #[]) w' ∧ Row w' b te n (fun _ => z) ∧ Only (fun x => x = b) w w' := by
  refine ⟨_, Go.Lib.run_clear_slice w t e ty z ht hv hz h1 b 0 n c hn (fun j hj => by rw [Nat.zero_add, hr.cell j hj]; rfl) (fun j hj => hr.frozen _), ?_, Only.setCells (S := fun x => x = b) rfl _ 0 Only.refl⟩
  refine (Row.setCells (List.replicate n z) 0 hr).ext fun q hq => ?_
  rw [if_pos (by simp; omega)]
  simp [List.getD_eq_getElem?_getD, hq]
theorem clearInts (w : World) (b n c ty : Nat) (hn : 0 < n) (m : Nat → Value) (hr : Row w b 3 n m) : ∃ w', (Builtin.clear_ #[29] ty #[.slice (some ⟨b, 0, none⟩) n c]).run Yba.prog w = .ok (.tuple #[]) w' ∧ Row w' b 3 n (fun _ => .int .i64 0) ∧ Only (fun x => x = b) w w' :=
  clearRow 29 3 ty (.int .i64 0) (by kernel_rfl) (fun w => by kernel_rfl) rfl rfl w b n c hn 3 m hr
theorem clearSlices (w : World) (b n c ty : Nat) (hn : 0 < n) (m : Nat → Value) (hr : Row w b 92 n m) : ∃ w', (Builtin.clear_ #[45] ty #[.slice (some ⟨b, 0, none⟩) n c]).run Yba.prog w = .ok (.tuple #[]) w' ∧ Row w' b 92 n (fun _ => .slice none 0 0) ∧ Only (fun x => x = b) w w' :=
  clearRow 45 92 ty (.slice none 0 0) (by kernel_rfl) (fun w => by kernel_rfl) rfl rfl w b n c hn 92 m hr
theorem clearBools (w : World) (b n c ty : Nat) (hn : 0 < n) (m : Nat → Value) (hr : Row w b 4 n m) : ∃ w', (Builtin.clear_ #[92] ty #[.slice (some ⟨b, 0, none⟩) n c]).run Yba.prog w = .ok (.tuple #[]) w' ∧ Row w' b 4 n (fun _ => .bool false) ∧ Only (fun x => x = b) w w' :=
  clearRow 92 4 ty (.bool false) (by kernel_rfl) (fun w => by kernel_rfl) rfl rfl w b n c hn 4 m hr
end Go.Proofs.Ybulkcawy
