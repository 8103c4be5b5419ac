/-
  A run's state: what stays, what moves; and the plain run.
-/
import Derived.Test.YbulkcawyCut
namespace Go.Proofs.Ybulkcawy
open Go.RowKit
set_option linter.unusedSimpArgs false
set_option linter.unusedVariables false

/-- What a run is told besides where things lie. -/
structure Par where
  keep : Bool
  KP : Nat
  CO : Nat
  Y : Nat
  S : Nat
  X : Nat
  F : Nat
  EB : Nat
  s : Nat
  fl : List Nat
  mm : Nat → Nat
  lo : Nat → Nat → Bool
  re : Nat → Nat → Bool
  E : Nat → Nat → List Ev

/-- The blocks that a run may turn. -/
def Touch (c : Cfg) (role : Nat → Nat) (b : Nat) : Prop :=
  c.base ≤ b ∨ role b = 3 ∨ role b = 4 ∨ role b = 5 ∨ role b = 6 ∨ role b = 10 ∨ role b = 11 ∨ role b = 14 ∨ 100 ≤ role b

structure Lay (c : Cfg) (role : Nat → Nat) (p : Par) : Prop where
  ap : c.Apart role
  kept : p.keep = true → c.Keep role p.KP p.CO p.Y p.S
  nokeep : p.keep = false → c.kp = .slice none 0 0
  x : role p.X = 14
  f : role p.F = 15
  bx : p.X < c.base
  bf : p.F < c.base
  me : c.me = .func (.func 12) #[] #[.pointer (some ⟨c.L, 0, none⟩)]
  eb : ∀ b, Touch c role b → p.EB ≤ b
  flq : ∀ q ∈ p.fl, 1 ≤ q ∧ q ≤ c.n
  fll : p.fl.length ≤ 2000
  mmb : ∀ q, p.mm q ≤ 1000000
  sb : p.s ≤ 1000
  evs : ∀ m q, ∀ e ∈ p.E m q, e.p = q ∧ e.t = m ∧ e.l ≤ 2
  evl : ∀ m q, (p.E m q).length ≤ 2
  evc : ∀ m q, compl c.cr q m = false → p.E m q = []
  n1 : 1 ≤ c.n
  cr1 : ∀ q, c.cr q ≤ 100
  dec1 : ∀ q, 1 ≤ c.dec q

def BoolF (c : Cfg) (role : Nat → Nat) (w : World) (v : Value) (m : Nat) (f : Nat → Bool) : Prop :=
  (v = .slice none 0 0 ∧ m = 0) ∨ ∃ b, v = .slice (some ⟨b, 0, none⟩) m m ∧ b < w.heap.size ∧ ¬ Touch c role b ∧ ∀ k, k < m → w.cell? ⟨b, k, none⟩ = some (.bool (f k))
theorem BoolF.toS {c : Cfg} {role : Nat → Nat} {w : World} {v : Value} {m : Nat} {f : Nat → Bool} (h : BoolF c role w v m f) : BoolS w v m f := by
  rcases h with h | ⟨b, h1, h2, _, h3⟩
  · exact .inl h
  · exact .inr ⟨b, h1, h2, h3⟩
theorem cell_of_only {S : Nat → Prop} {w w' : World} (ho : Only S w w') {b k : Nat} (hb : b < w.heap.size) (hn : ¬ S b) : w'.cell? ⟨b, k, none⟩ = w.cell? ⟨b, k, none⟩ :=
  World.cell?_of_block (w := w) (a := ⟨b, k, none⟩) (ho.block b hb hn)
theorem BoolF.only {c : Cfg} {role : Nat → Nat} {w w' : World} {v : Value} {m : Nat} {f : Nat → Bool} {S : Nat → Prop} (h : BoolF c role w v m f) (ho : Only S w w') (hS : ∀ b, b < w.heap.size → S b → Touch c role b) : BoolF c role w' v m f := by
  rcases h with h | ⟨b, h1, h2, h4, h3⟩
  · exact .inl h
  · exact .inr ⟨b, h1, Nat.lt_of_lt_of_le h2 ho.size, h4, fun k hk => by rw [cell_of_only ho h2 (fun e => h4 (hS b h2 e))]; exact h3 k hk⟩

def IntF (c : Cfg) (role : Nat → Nat) (w : World) (v : Value) (xs : List Nat) : Prop :=
  (v = .slice none 0 0 ∧ xs = []) ∨ ∃ b cap, v = .slice (some ⟨b, 0, none⟩) xs.length cap ∧ b < w.heap.size ∧ ¬ Touch c role b ∧ ∀ k (hk : k < xs.length), w.cell? ⟨b, k, none⟩ = some (.int .i64 xs[k])
theorem IntF.only {c : Cfg} {role : Nat → Nat} {w w' : World} {v : Value} {xs : List Nat} {S : Nat → Prop} (h : IntF c role w v xs) (ho : Only S w w') (hS : ∀ b, b < w.heap.size → S b → Touch c role b) : IntF c role w' v xs := by
  rcases h with h | ⟨b, cap, h1, h2, h4, h3⟩
  · exact .inl h
  · exact .inr ⟨b, cap, h1, Nat.lt_of_lt_of_le h2 ho.size, h4, fun k hk => by rw [cell_of_only ho h2 (fun e => h4 (hS b h2 e))]; exact h3 k hk⟩
theorem IntF.form {c : Cfg} {role : Nat → Nat} {w : World} {v : Value} {xs : List Nat} (h : IntF c role w v xs) : ∃ a cap, v = .slice a xs.length cap := by
  rcases h with ⟨rfl, rfl⟩ | ⟨b, cap, rfl, _⟩
  · exact ⟨none, 0, rfl⟩
  · exact ⟨_, _, rfl⟩

def Cfg.fpM (c : Cfg) (k : Nat) : Value :=
  ([.int .i64 c.last, .slice (some ⟨c.C, 0, none⟩) (c.n + 1) (c.n + 1), .slice (some ⟨c.R, 0, none⟩) (c.n + 1) (c.n + 1), .slice (some ⟨c.Lo, 0, none⟩) (c.n + 1) (c.n + 1), c.fa, .slice (some ⟨c.LO, 0, none⟩) (c.n + 1) (c.n + 1)] : List Value).getD k undef

/-- What stays. -/
structure Fixed (c : Cfg) (role : Nat → Nat) (p : Par) (w : World) : Prop where
  st : Stat c w
  R : Row w c.R 92 (c.n + 1) c.reV
  Lo : Row w c.Lo 92 (c.n + 1) c.loV
  los : ∀ q, 1 ≤ q → q ≤ c.n → BoolF c role w (c.loV q) (p.mm q) (p.lo q)
  res : ∀ q, 1 ≤ q → q ≤ c.n → c.cr q ≠ 0 → BoolF c role w (c.reV q) (c.n + 1) (p.re q)
  fa : IntF c role w c.fa p.fl
  f : Row w p.F 47 6 c.fpM
  kp : p.keep = true → Row w p.KP 74 (c.n + 1) c.procM
  s : p.keep = true → Row w p.S 3 1 (fun _ => .int .i64 p.s)

section
variable {c : Cfg} {role : Nat → Nat} {p : Par} {w w' : World} {S : Nat → Prop}
theorem not_touch {b r : Nat} (hb : b < c.base) (hr : role b = r) (h : (r = 0 ∨ r = 1 ∨ r = 2 ∨ r = 7 ∨ r = 8 ∨ r = 9 ∨ r = 12 ∨ r = 15)) : ¬ Touch c role b := by
  unfold Touch
  rw [hr]
  omega

theorem Fixed.only (h : Fixed c role p w) (hl : Lay c role p) (ho : Only S w w') (hS : ∀ b, b < w.heap.size → S b → Touch c role b) : Fixed c role p w' := by
  have key : ∀ b r, b < c.base → role b = r → (r = 0 ∨ r = 1 ∨ r = 2 ∨ r = 7 ∨ r = 8 ∨ r = 9 ∨ r = 12 ∨ r = 15) → ¬ S b := fun b r h1 h2 h3 h4 => not_touch h1 h2 h3 (hS b (by have := h.st.bs; omega) h4)
  refine ⟨h.st.only ho (key _ _ hl.ap.bpl hl.ap.pl (by simp)) (key _ _ hl.ap.bcr hl.ap.cr (by simp)) (key _ _ hl.ap.bpr hl.ap.pr (by simp)), h.R.only ho (key _ _ hl.ap.bre hl.ap.re (by simp)), h.Lo.only ho (key _ _ hl.ap.blo hl.ap.lo (by simp)),
    fun q h1 h2 => (h.los q h1 h2).only ho hS, fun q h1 h2 h3 => (h.res q h1 h2 h3).only ho hS, h.fa.only ho hS, h.f.only ho (key _ _ hl.bf hl.f (by simp)), fun hk => (h.kp hk).only ho (key _ _ (hl.kept hk).bkp (hl.kept hk).kp (by simp)), fun hk => (h.s hk).only ho (key _ _ (hl.kept hk).bs' (hl.kept hk).s (by simp))⟩
end

/-- What moves. -/
structure Mov (c : Cfg) (role : Nat → Nat) (p : Par) (w : World) (got : Nat → Nat) (ms ib : Nat → Option Int) (dt : Nat → Option Nat) (xs : List Int) (g : Option Nat) (evs : List Ev) (cm : Nat → Option (Nat × Nat)) (y : Nat) : Prop where
  pr : Procs c w got
  se : Row w c.SE 20 (c.n + 1) (fun k => msgV (ms k))
  ib : Row w c.IN 20 c.n (fun k => msgV (ib k))
  ou : Row w c.OU 71 (c.n * 5) (outM c.cr dt)
  lg : LogAt w c.base c.L xs g
  ev : ∃ v, Row w p.X 37 1 (fun _ => v) ∧ EvS w p.EB c.L v evs ∧ ∀ a, v.ownBlock = some a → a ≠ p.X
  co : p.keep = true → Cores w c.base p.CO (c.last * c.n) g cm
  yy : p.keep = true → Row w p.Y 3 1 (fun _ => .int .i64 y)

section
variable {c : Cfg} {role : Nat → Nat} {p : Par} {w w' : World} {got : Nat → Nat} {ms ib : Nat → Option Int} {dt : Nat → Option Nat} {xs : List Int} {g g' : Option Nat} {evs : List Ev} {cm : Nat → Option (Nat × Nat)} {y : Nat}

theorem Mov.others (h : Mov c role p w got ms ib dt xs g evs cm y) (hl : Lay c role p) (Z : Nat → Prop) (ho : Only (fun b => LogS c.L g b ∨ Z b) w w') (hn : NewG w g g') (ρ : Nat → Prop) (hZ : ∀ b, Z b → b < c.base ∧ ρ (role b) ∧ Touch c role b) :
    ((∀ q, ¬ ρ (100 + q)) → Procs c w' got) ∧ (¬ ρ 3 → Row w' c.SE 20 (c.n + 1) (fun k => msgV (ms k))) ∧ (¬ ρ 5 → Row w' c.IN 20 c.n (fun k => msgV (ib k))) ∧ (¬ ρ 4 → Row w' c.OU 71 (c.n * 5) (outM c.cr dt)) ∧
    (¬ ρ 14 → ∃ v, Row w' p.X 37 1 (fun _ => v) ∧ EvS w' p.EB c.L v evs ∧ ∀ a, v.ownBlock = some a → a ≠ p.X) ∧ (¬ ρ 10 → p.keep = true → Cores w' c.base p.CO (c.last * c.n) g' cm) ∧ (¬ ρ 11 → p.keep = true → Row w' p.Y 3 1 (fun _ => .int .i64 y)) := by
  have key : ∀ b r, b < c.base → role b = r → r ≠ 6 → ¬ ρ r → ¬ (LogS c.L g b ∨ Z b) := fun b r h1 h2 h3 h4 h5 => by
    rcases h5 with (h5 | h5) | h5
    · exact h3 (by rw [← h2, h5, hl.ap.log])
    · have := h.lg.block_lt h5
      omega
    · exact h4 (by rw [← h2]; exact (hZ b h5).2.1)
  refine ⟨fun hr => h.pr.only ho (fun q _ _ => key _ _ (hl.ap.bap q) (hl.ap.ap q) (by omega) (hr _)), fun hr => h.se.only ho (key _ _ hl.ap.bse hl.ap.se (by decide) hr), fun hr => h.ib.only ho (key _ _ hl.ap.bin hl.ap.inb (by decide) hr), fun hr => h.ou.only ho (key _ _ hl.ap.bou hl.ap.ou (by decide) hr), fun hr => ?_, fun hr hk => ?_, fun hr hk => (h.yy hk).only ho (key _ _ (hl.kept hk).by' (hl.kept hk).y (by decide) hr)⟩
  · obtain ⟨v, h1, h2, h3⟩ := h.ev
    refine ⟨v, h1.only ho (key _ _ hl.bx hl.x (by decide) hr), h2.only ho (fun b hb hlt => ?_), h3⟩
    exfalso
    have : Touch c role b := by
      rcases hb with (hb | hb) | hb
      · rw [hb]; exact .inr (.inr (.inr (.inr (.inl hl.ap.log))))
      · exact .inl (h.lg.block_lt hb).1
      · exact (hZ b hb).2.2
    have := hl.eb b this
    omega
  · refine (h.co hk).only ho hn (key _ _ (hl.kept hk).bco (hl.kept hk).co (by decide) hr) (fun b hb hs => ?_)
    rcases hs with (hs | hs) | hs
    · have := hl.ap.blog
      omega
    · exact hs
    · have := (hZ b hs).1
      omega
end

/-! ### The plain run -/
def sentAt (cr : Nat → Nat) (r q : Nat) : Option Int := if compl cr q (r - 1) then some ((q : Int) * 100 + (r : Int)) else none
def delP (c : Cfg) (p : Par) (q i r : Nat) : Bool := !(p.fl.contains q) || deliv c.cr (p.re q) (p.mm q) (p.lo q) c.n q i r
def inbAt (c : Cfg) (p : Par) (r i k : Nat) : Option Int := if delP c p (k + 1) i r then sentAt c.cr r (k + 1) else none
def recvL (c : Cfg) (p : Par) (r i : Nat) : List Int :=
  if compl c.cr i r then (if p.keep then [-4, (i : Int), ((p.E r i).length : Int)] ++ (p.E r i).flatMap Ev.code else []) ++ [(i : Int), (r : Int)] ++ (List.range c.n).map (fun k => codeOf (inbAt c p r i k)) else []
def recvsL (c : Cfg) (p : Par) (r k : Nat) : List Int := (List.range k).flatMap fun j => recvL c p r (j + 1)
theorem recvsL_succ (c : Cfg) (p : Par) (r k : Nat) : recvsL c p r (k + 1) = recvsL c p r k ++ recvL c p r (k + 1) := by
  simp [recvsL, List.range_succ, List.flatMap_append]
def headL (c : Cfg) (r : Nat) : List Int := [-2, (r : Int)] ++ (List.range c.n).map (fun k => codeOf (sentAt c.cr r (k + 1)))
/-- The cores of the rounds up to k. -/
def yR (cr : Nat → Nat) (n : Nat) : Nat → Nat
  | 0 => 0
  | k + 1 => yR cr n k + cntC cr (k + 1) n
def stopR (c : Cfg) (p : Par) (r : Nat) : Option Nat := if p.keep then stopK c.cr r (yR c.cr c.n (r - 1)) p.s c.n else none
def coreLr (c : Cfg) (p : Par) (r : Nat) : List Int := if p.keep then coresL c.cr (fun _ => r) r ((stopR c p r).getD c.n) else []
def runL (c : Cfg) (p : Par) : Nat → Nat → List Int
  | 0, _ => []
  | k + 1, r => headL c r ++ recvsL c p r c.n ++ coreLr c p r ++ (if (stopR c p r).isSome then [] else (if r < c.last then givesL c.cr r c.n else []) ++ runL c p k (r + 1))
def endR (c : Cfg) (p : Par) : Nat → Nat → Nat
  | 0, _ => c.last
  | k + 1, r => if (stopR c p r).isSome then r else endR c p k (r + 1)
def dtAt (c : Cfg) (R q : Nat) : Option Nat := if c.dec q ≤ R ∧ compl c.cr q (c.dec q) = true then some (c.dec q) else none
def cmAt (c : Cfg) (R K x : Nat) : Option (Nat × Nat) :=
  if compl c.cr (x % c.n + 1) (x / c.n + 1) = true ∧ (x / c.n + 1 < R ∨ (x / c.n + 1 = R ∧ x % c.n + 1 ≤ K)) then some (x % c.n + 1, x / c.n + 1) else none

theorem compl_mono {cr : Nat → Nat} {q r r' : Nat} (h : compl cr q r = true) (hr : r' ≤ r) : compl cr q r' = true := by
  unfold compl at *
  simp only [Bool.or_eq_true, decide_eq_true_eq] at *
  omega

theorem recvL_len (c : Cfg) (role : Nat → Nat) (p : Par) (hl : Lay c role p) (r i : Nat) : (recvL c p r i).length ≤ 20 := by
  have := hl.evl r i
  have := hl.ap.small
  unfold recvL
  split
  · rw [List.length_append, List.length_append, List.length_map, List.length_range]
    have : (if p.keep = true then [-4, (i : Int), ((p.E r i).length : Int)] ++ (p.E r i).flatMap Ev.code else []).length ≤ 9 := by
      split
      · rw [List.length_append, codes_len]
        simp only [List.length_cons, List.length_nil]
        omega
      · simp
    simp only [List.length_cons, List.length_nil]
    omega
  · simp
theorem recvsL_len (c : Cfg) (role : Nat → Nat) (p : Par) (hl : Lay c role p) (r k : Nat) : (recvsL c p r k).length ≤ 20 * k := by
  induction k with
  | zero => simp [recvsL]
  | succ k ih =>
    rw [recvsL_succ, List.length_append]
    have := recvL_len c role p hl r (k + 1)
    omega

/-- The decisions behind round r. -/
theorem dtAt_step (c : Cfg) (r : Nat) (hr : 1 ≤ r) (got : Nat → Nat) (hg : ∀ q, 1 ≤ q → q ≤ c.n → compl c.cr q r = true → got q = r) (q : Nat) (hq : 1 ≤ q ∧ q ≤ c.n) : decM c r got c.n (dtAt c (r - 1)) q = dtAt c r q := by
  unfold decM
  by_cases h : 1 ≤ q ∧ q ≤ c.n ∧ dtAt c (r - 1) q = none ∧ compl c.cr q r = true ∧ c.dec q ≤ got q
  · rw [if_pos h]
    obtain ⟨_, _, h3, h4, h5⟩ := h
    rw [hg q hq.1 hq.2 h4] at h5
    have hc : compl c.cr q (c.dec q) = true := compl_mono h4 h5
    unfold dtAt at h3 ⊢
    rw [if_pos ⟨h5, hc⟩]
    by_cases h6 : c.dec q ≤ r - 1
    · rw [if_pos ⟨h6, hc⟩] at h3
      cases h3
    · have : c.dec q = r := by omega
      rw [this]
  · rw [if_neg h]
    unfold dtAt
    by_cases h1 : c.dec q ≤ r - 1 ∧ compl c.cr q (c.dec q) = true
    · rw [if_pos h1, if_pos ⟨by omega, h1.2⟩]
    · rw [if_neg h1, if_neg]
      rintro ⟨h2, h3⟩
      have h4 : c.dec q = r := by
        by_cases h5 : c.dec q ≤ r - 1
        · exact absurd ⟨h5, h3⟩ h1
        · omega
      rw [h4] at h3
      refine h ⟨hq.1, hq.2, ?_, h3, ?_⟩
      · unfold dtAt
        rw [if_neg h1]
      · rw [hg q hq.1 hq.2 h3]
        exact h2

theorem coreU_cmAt (c : Cfg) (hn : 1 ≤ c.n) (r : Nat) (hr : 1 ≤ r) (got : Nat → Nat) (hg : ∀ q, 1 ≤ q → q ≤ c.n → compl c.cr q r = true → got q = r) (k : Nat) (hk : k ≤ c.n) : coreU c got r k (cmAt c r 0) = cmAt c r k := by
  funext x
  have hx := Nat.div_add_mod x c.n
  have hm := Nat.mod_lt x (show 0 < c.n by omega)
  unfold coreU
  by_cases e : x / c.n = r - 1
  · have e1 : x = (r - 1) * c.n + x % c.n := by rw [← e, Nat.mul_comm]; omega
    have e2 : x - (r - 1) * c.n + 1 = x % c.n + 1 := by omega
    have e3 : x / c.n + 1 = r := by omega
    rw [e2]
    unfold cmAt
    rw [e3]
    by_cases h : compl c.cr (x % c.n + 1) r = true ∧ x % c.n + 1 ≤ k
    · rw [if_pos ⟨by omega, by omega, h.1⟩, if_pos ⟨h.1, .inr ⟨rfl, h.2⟩⟩, hg _ (by omega) (by omega) h.1]
    · rw [if_neg (fun h' => h ⟨h'.2.2, by omega⟩), if_neg (fun h' => by omega), if_neg (fun h' => h ⟨h'.1, by omega⟩)]
  · rw [if_neg]
    · unfold cmAt
      have e3 : ¬ (x / c.n + 1 = r) := by omega
      simp only [e3, false_and, or_false]
    · rintro ⟨h1, h2, _⟩
      apply e
      have h3 : x / c.n < r - 1 + 1 := (Nat.div_lt_iff_lt_mul (by omega)).2 (by rw [Nat.add_mul]; omega)
      have h4 : r - 1 ≤ x / c.n := (Nat.le_div_iff_mul_le (by omega)).2 h1
      omega

theorem cmAt_next (c : Cfg) (hn : 1 ≤ c.n) (r : Nat) : cmAt c r c.n = cmAt c (r + 1) 0 := by
  funext x
  have hm := Nat.mod_lt x (show 0 < c.n by omega)
  unfold cmAt
  have e : (x / c.n + 1 < r ∨ x / c.n + 1 = r ∧ x % c.n + 1 ≤ c.n) ↔ (x / c.n + 1 < r + 1 ∨ x / c.n + 1 = r + 1 ∧ x % c.n + 1 ≤ 0) := by omega
  simp only [e]

theorem coresL_got (cr : Nat → Nat) (got : Nat → Nat) (r n k : Nat) (hk : k ≤ n) (hg : ∀ q, 1 ≤ q → q ≤ n → compl cr q r = true → got q = r) : coresL cr got r k = coresL cr (fun _ => r) r k := by
  induction k with
  | zero => rfl
  | succ k ih =>
    rw [coresL_succ, coresL_succ, ih (by omega)]
    split
    · rename_i h
      rw [hg _ (by omega) hk h]
    · rfl
end Go.Proofs.Ybulkcawy
