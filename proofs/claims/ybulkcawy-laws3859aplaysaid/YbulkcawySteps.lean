/-
  The steps of a round, as steps of the state; the events, cut by round and process; copy.
-/
import Derived.Test.YbulkcawyPlay6
import Derived.Laws.IdiomCopy
namespace Go.Proofs.Ybulkcawy
open Go.RowKit
set_option linter.unusedSimpArgs false
set_option linter.unusedVariables false

section
variable {c : Cfg} {role : Nat → Nat} {p : Par} {w w' : World} {got : Nat → Nat} {ms ib ms' ib' : Nat → Option Int} {dt dt' : Nat → Option Nat} {xs xs' : List Int} {g g' : Option Nat} {evs evs' : List Ev} {cm cm' : Nat → Option (Nat × Nat)} {y y' : Nat}

theorem Mov.same (h : Mov c role p w got ms ib dt xs g evs cm y) (hl : Lay c role p) (ho : Only (fun _ => False) w w') : Mov c role p w' got ms ib dt xs g evs cm y := by
  obtain ⟨a1, a2, a3, a4, a5, a6, a7⟩ := h.others (g' := g) hl (fun _ => False) (ho.mono (fun _ _ e => e.elim)) (NewG.refl _ _) (fun _ => False) (fun _ e => e.elim)
  exact ⟨a1 (fun _ e => e), a2 (fun e => e), a3 (fun e => e), a4 (fun e => e), h.lg.only ho (fun e => e) (fun _ _ e => e), a5 (fun e => e), a6 (fun e => e), a7 (fun e => e)⟩
theorem Mov.log (h : Mov c role p w got ms ib dt xs g evs cm y) (hl : Lay c role p) (ho : Only (LogS c.L g) w w') (hn : NewG w g g') (hlog : LogAt w' c.base c.L xs' g') : Mov c role p w' got ms ib dt xs' g' evs cm y := by
  obtain ⟨a1, a2, a3, a4, a5, a6, a7⟩ := h.others hl (fun _ => False) (ho.mono (fun _ _ e => .inl e)) hn (fun _ => False) (fun _ e => e.elim)
  exact ⟨a1 (fun _ e => e), a2 (fun e => e), a3 (fun e => e), a4 (fun e => e), hlog, a5 (fun e => e), a6 (fun e => e), a7 (fun e => e)⟩
theorem Mov.inbox (h : Mov c role p w got ms ib dt xs g evs cm y) (hl : Lay c role p) (ho : Only (fun b => b = c.IN) w w') (hi : Row w' c.IN 20 c.n (fun k => msgV (ib' k))) : Mov c role p w' got ms ib' dt xs g evs cm y := by
  obtain ⟨a1, a2, a3, a4, a5, a6, a7⟩ := h.others (g' := g) hl (fun b => b = c.IN) (ho.mono (fun _ _ e => .inr e)) (NewG.refl _ _) (fun r => r = 5) (fun b e => by rw [e]; exact ⟨hl.ap.bin, hl.ap.inb, .inr (.inr (.inr (.inl hl.ap.inb)))⟩)
  exact ⟨a1 (fun _ e => by omega), a2 (by decide), hi, a4 (by decide), h.lg.only ho (hl.ap.ne hl.ap.log hl.ap.inb (by decide)) (fun b hb e => by have := h.lg.block_lt hb; have := hl.ap.bin; omega), a5 (by decide), a6 (by decide), a7 (by decide)⟩
theorem Mov.evts (h : Mov c role p w got ms ib dt xs g evs cm y) (hl : Lay c role p) (ho : Only (fun b => b = p.X) w w') (hx : ∃ v, Row w' p.X 37 1 (fun _ => v) ∧ EvS w' p.EB c.L v evs' ∧ ∀ a, v.ownBlock = some a → a ≠ p.X) : Mov c role p w' got ms ib dt xs g evs' cm y := by
  obtain ⟨a1, a2, a3, a4, a5, a6, a7⟩ := h.others (g' := g) hl (fun b => b = p.X) (ho.mono (fun _ _ e => .inr e)) (NewG.refl _ _) (fun r => r = 14) (fun b e => by rw [e]; exact ⟨hl.bx, hl.x, .inr (.inr (.inr (.inr (.inr (.inr (.inr (.inl hl.x)))))))⟩)
  exact ⟨a1 (fun _ e => by omega), a2 (by decide), a3 (by decide), a4 (by decide), h.lg.only ho (hl.ap.ne hl.ap.log hl.x (by decide)) (fun b hb e => by have := h.lg.block_lt hb; have := hl.bx; omega), hx, a6 (by decide), a7 (by decide)⟩
theorem Mov.recv (h : Mov c role p w got ms ib dt xs g evs cm y) (hl : Lay c role p) (i : Nat) (hin : i ≤ c.n) (ho : Only (fun b => LogS c.L g b ∨ b = c.ap i) w w') (hn : NewG w g g') (hlog : LogAt w' c.base c.L xs' g') (hA : Row w' (c.ap i) 67 4 (aprocM i (c.dec i) (got i + 1) c.L)) : Mov c role p w' (fun q => if q = i then got q + 1 else got q) ms ib dt xs' g' evs cm y := by
  obtain ⟨a1, a2, a3, a4, a5, a6, a7⟩ := h.others hl (fun b => b = c.ap i) ho hn (fun r => r = 100 + i % (c.n + 1)) (fun b e => by rw [e]; exact ⟨hl.ap.bap i, hl.ap.ap i, .inr (.inr (.inr (.inr (.inr (.inr (.inr (.inr (by rw [hl.ap.ap i]; omega))))))))⟩)
  refine ⟨fun q h1 h2 => ?_, a2 (by omega), a3 (by omega), a4 (by omega), hlog, a5 (by omega), a6 (by omega), a7 (by omega)⟩
  by_cases e : q = i
  · subst e
    simpa using hA
  · simp only [e, if_false]
    refine (h.pr q h1 h2).only ho (fun hs => ?_)
    rcases hs with (hs | hs) | hs
    · exact hl.ap.ne (hl.ap.ap q) hl.ap.log (by omega) hs
    · have := h.lg.block_lt hs
      have := hl.ap.bap q
      omega
    · exact hl.ap.ne (hl.ap.ap q) (hl.ap.ap i) (by rw [Nat.mod_eq_of_lt (show q < c.n + 1 by omega), Nat.mod_eq_of_lt (show i < c.n + 1 by omega)]; omega) hs
theorem Mov.outs (h : Mov c role p w got ms ib dt xs g evs cm y) (hl : Lay c role p) (ho : Only (fun b => b = c.OU) w w') (hx : Row w' c.OU 71 (c.n * 5) (outM c.cr dt')) : Mov c role p w' got ms ib dt' xs g evs cm y := by
  obtain ⟨a1, a2, a3, a4, a5, a6, a7⟩ := h.others (g' := g) hl (fun b => b = c.OU) (ho.mono (fun _ _ e => .inr e)) (NewG.refl _ _) (fun r => r = 4) (fun b e => by rw [e]; exact ⟨hl.ap.bou, hl.ap.ou, .inr (.inr (.inl hl.ap.ou))⟩)
  exact ⟨a1 (fun _ e => by omega), a2 (by decide), a3 (by decide), hx, h.lg.only ho (hl.ap.ne hl.ap.log hl.ap.ou (by decide)) (fun b hb e => by have := h.lg.block_lt hb; have := hl.ap.bou; omega), a5 (by decide), a6 (by decide), a7 (by decide)⟩
theorem Mov.cores (h : Mov c role p w got ms ib dt xs g evs cm y) (hl : Lay c role p) (hk : p.keep = true) (ho : Only (fun b => LogS c.L g b ∨ b = p.CO ∨ b = p.Y) w w') (hn : NewG w g g') (hlog : LogAt w' c.base c.L xs' g') (hc : Cores w' c.base p.CO (c.last * c.n) g' cm') (hy : Row w' p.Y 3 1 (fun _ => .int .i64 y')) : Mov c role p w' got ms ib dt xs' g' evs cm' y' := by
  have hk' := hl.kept hk
  obtain ⟨a1, a2, a3, a4, a5, a6, a7⟩ := h.others hl (fun b => b = p.CO ∨ b = p.Y) ho hn (fun r => r = 10 ∨ r = 11) (fun b e => by
    rcases e with e | e <;> rw [e]
    · exact ⟨hk'.bco, .inl hk'.co, .inr (.inr (.inr (.inr (.inr (.inl hk'.co)))))⟩
    · exact ⟨hk'.by', .inr hk'.y, .inr (.inr (.inr (.inr (.inr (.inr (.inl hk'.y))))))⟩)
  exact ⟨a1 (fun _ e => by omega), a2 (by decide), a3 (by decide), a4 (by decide), hlog, a5 (by decide), fun _ => hc, fun _ => hy⟩
theorem Mov.give (h : Mov c role p w got ms ib dt xs g evs cm y) (hl : Lay c role p) (ho : Only (fun b => LogS c.L g b ∨ b = c.SE) w w') (hn : NewG w g g') (hlog : LogAt w' c.base c.L xs' g') (hx : Row w' c.SE 20 (c.n + 1) (fun k => msgV (ms' k))) : Mov c role p w' got ms' ib dt xs' g' evs cm y := by
  obtain ⟨a1, a2, a3, a4, a5, a6, a7⟩ := h.others hl (fun b => b = c.SE) ho hn (fun r => r = 3) (fun b e => by rw [e]; exact ⟨hl.ap.bse, hl.ap.se, .inr (.inl hl.ap.se)⟩)
  exact ⟨a1 (fun _ e => by omega), hx, a3 (by decide), a4 (by decide), hlog, a5 (by decide), a6 (by decide), a7 (by decide)⟩

theorem touch_log (h : LogAt w c.base c.L xs g) (hl : Lay c role p) (b : Nat) (hb : LogS c.L g b) : Touch c role b := by
  rcases hb with hb | hb
  · rw [hb]; exact .inr (.inr (.inr (.inr (.inl hl.ap.log))))
  · exact .inl (h.block_lt hb).1
theorem touch_in (hl : Lay c role p) : Touch c role c.IN := .inr (.inr (.inr (.inl hl.ap.inb)))
theorem touch_se (hl : Lay c role p) : Touch c role c.SE := .inr (.inl hl.ap.se)
theorem touch_ou (hl : Lay c role p) : Touch c role c.OU := .inr (.inr (.inl hl.ap.ou))
theorem touch_x (hl : Lay c role p) : Touch c role p.X := .inr (.inr (.inr (.inr (.inr (.inr (.inr (.inl hl.x)))))))
theorem touch_ap (hl : Lay c role p) (q : Nat) : Touch c role (c.ap q) := .inr (.inr (.inr (.inr (.inr (.inr (.inr (.inr (by rw [hl.ap.ap q]; omega))))))))
theorem touch_co (hl : Lay c role p) (hk : p.keep = true) : Touch c role p.CO := .inr (.inr (.inr (.inr (.inr (.inl (hl.kept hk).co)))))
theorem touch_y (hl : Lay c role p) (hk : p.keep = true) : Touch c role p.Y := .inr (.inr (.inr (.inr (.inr (.inr (.inl (hl.kept hk).y))))))
end

/-! ### The events, by round and process -/
def rowE (p : Par) (r i k : Nat) : List Ev := (List.range k).flatMap fun j => p.E r (i + j)
def restE (c : Cfg) (p : Par) (r : Nat) : List Ev := (List.range (c.last - r)).flatMap fun m => rowE p (r + 1 + m) 1 c.n
def evAt (c : Cfg) (p : Par) (r i : Nat) : List Ev := if p.keep then rowE p r i (c.n + 1 - i) ++ restE c p r else []

theorem rowE_succ (p : Par) (r i k : Nat) : rowE p r i (k + 1) = p.E r i ++ rowE p r (i + 1) k := by
  unfold rowE
  rw [List.range_succ_eq_map, List.flatMap_cons, List.flatMap_map]
  simp only [Nat.add_zero, Nat.succ_eq_add_one]
  congr 2
  funext j
  rw [show i + (j + 1) = i + 1 + j by omega]
theorem restE_succ (c : Cfg) (p : Par) (r : Nat) (hr : r < c.last) : restE c p r = rowE p (r + 1) 1 c.n ++ restE c p (r + 1) := by
  unfold restE
  rw [show c.last - r = (c.last - (r + 1)) + 1 by omega, List.range_succ_eq_map, List.flatMap_cons, List.flatMap_map]
  simp only [Nat.add_zero, Nat.succ_eq_add_one]
  congr 2
  funext j
  rw [show r + 1 + (j + 1) = r + 1 + 1 + j by omega]

theorem evAt_step (c : Cfg) (p : Par) (r i : Nat) (hi : i ≤ c.n) : evAt c p r i = (if p.keep then p.E r i else []) ++ evAt c p r (i + 1) := by
  unfold evAt
  cases p.keep with
  | false => simp
  | true =>
    simp only [if_true]
    rw [show c.n + 1 - i = (c.n + 1 - (i + 1)) + 1 by omega, rowE_succ, List.append_assoc]
theorem evAt_next (c : Cfg) (p : Par) (r : Nat) (hr : r < c.last) : evAt c p r (c.n + 1) = evAt c p (r + 1) 1 := by
  unfold evAt
  rw [Nat.sub_self, restE_succ c p r hr]
  simp [rowE]

theorem while_split {α : Type} (P : α → Bool) (l1 l2 : List α) (h1 : ∀ a ∈ l1, P a = true) (h2 : ∀ a ∈ l2, P a = false) : (l1 ++ l2).takeWhile P = l1 ∧ (l1 ++ l2).dropWhile P = l2 := by
  induction l1 with
  | nil =>
    cases l2 with
    | nil => exact ⟨rfl, rfl⟩
    | cons a l => simp [List.takeWhile, List.dropWhile, h2 a (by simp)]
  | cons a l ih =>
    have := ih (fun b hb => h1 b (by simp [hb]))
    simp [List.takeWhile, List.dropWhile, h1 a (by simp), this]

theorem mem_evAt {c : Cfg} {role : Nat → Nat} {p : Par} (hl : Lay c role p) {r i : Nat} {e : Ev} (h : e ∈ evAt c p r i) : (e.t = r ∧ i ≤ e.p) ∨ r < e.t := by
  unfold evAt at h
  cases hk : p.keep with
  | false => rw [hk] at h; simp at h
  | true =>
    rw [hk] at h
    simp only [if_true, List.mem_append] at h
    rcases h with h | h
    · unfold rowE at h
      obtain ⟨j, _, h⟩ := List.mem_flatMap.1 h
      have := hl.evs r (i + j) e h
      exact .inl ⟨this.2.1, by omega⟩
    · unfold restE at h
      obtain ⟨m, _, h⟩ := List.mem_flatMap.1 h
      unfold rowE at h
      obtain ⟨j, _, h⟩ := List.mem_flatMap.1 h
      have := hl.evs _ _ e h
      exact .inr (by omega)

theorem evAt_split (c : Cfg) (role : Nat → Nat) (p : Par) (hl : Lay c role p) (hk : p.keep = true) (r i : Nat) (hi : i ≤ c.n) : (evAt c p r i).takeWhile (Ev.at i r) = p.E r i ∧ (evAt c p r i).dropWhile (Ev.at i r) = evAt c p r (i + 1) := by
  rw [evAt_step c p r i hi, hk]
  refine while_split _ _ _ (fun e he => ?_) (fun e he => ?_)
  · have := hl.evs r i e he
    simp [Ev.at, this.1, this.2.1]
  · have := mem_evAt hl he
    simp only [Ev.at, Bool.and_eq_false_iff, decide_eq_false_iff_not]
    omega

theorem rowE_len (c : Cfg) (role : Nat → Nat) (p : Par) (hl : Lay c role p) (r i k : Nat) : (rowE p r i k).length ≤ 2 * k := by
  induction k generalizing i with
  | zero => simp [rowE]
  | succ k ih =>
    rw [rowE_succ, List.length_append]
    have := hl.evl r i
    have := ih (i + 1)
    omega
theorem restE_len (c : Cfg) (role : Nat → Nat) (p : Par) (hl : Lay c role p) (k r : Nat) (hk : c.last - r = k) : (restE c p r).length ≤ 12 * k := by
  induction k generalizing r with
  | zero => simp [restE, hk]
  | succ k ih =>
    rw [restE_succ c p r (by omega), List.length_append]
    have := rowE_len c role p hl (r + 1) 1 c.n
    have := ih (r + 1) (by omega)
    have := hl.ap.small
    omega
theorem evAt_len (c : Cfg) (role : Nat → Nat) (p : Par) (hl : Lay c role p) (r i : Nat) : (evAt c p r i).length ≤ 1000 := by
  unfold evAt
  split
  · rw [List.length_append]
    have := rowE_len c role p hl r i (c.n + 1 - i)
    have := restE_len c role p hl _ r rfl
    have := hl.ap.small
    have := hl.ap.small'
    omega
  · simp

def gotR (c : Cfg) (got : Nat → Nat) (r k q : Nat) : Nat := if 1 ≤ q ∧ q ≤ k ∧ compl c.cr q r = true then got q + 1 else got q
theorem gotR_same (c : Cfg) (got : Nat → Nat) (r i : Nat) (hi : 1 ≤ i) (h : compl c.cr i r = false) : gotR c got r (i + 1 - 1) = gotR c got r (i - 1) := by
  funext q
  unfold gotR
  by_cases e : q = i
  · subst e
    rw [if_neg (fun h' => by rw [h] at h'; cases h'.2.2), if_neg (by omega)]
  · by_cases h1 : 1 ≤ q ∧ q ≤ i - 1 ∧ compl c.cr q r = true
    · rw [if_pos h1, if_pos ⟨h1.1, by omega, h1.2.2⟩]
    · rw [if_neg h1, if_neg (fun h' => h1 ⟨h'.1, by omega, h'.2.2⟩)]
theorem gotR_new (c : Cfg) (got : Nat → Nat) (r i : Nat) (hi : 1 ≤ i) (h : compl c.cr i r = true) : gotR c got r (i + 1 - 1) = fun q => if q = i then gotR c got r (i - 1) q + 1 else gotR c got r (i - 1) q := by
  funext q
  unfold gotR
  by_cases e : q = i
  · subst e
    rw [if_pos ⟨hi, by omega, h⟩, if_pos rfl, if_neg (by omega)]
  · rw [if_neg e]
    by_cases h1 : 1 ≤ q ∧ q ≤ i - 1 ∧ compl c.cr q r = true
    · rw [if_pos h1, if_pos ⟨h1.1, by omega, h1.2.2⟩]
    · rw [if_neg h1, if_neg (fun h' => h1 ⟨h'.1, by omega, h'.2.2⟩)]
theorem gotR_le (c : Cfg) (got : Nat → Nat) (r i q : Nat) : gotR c got r i q ≤ got q + 1 := by
  unfold gotR
  split <;> omega

/-! ### copy -/
theorem Row.setCells {g : Nat} {t : TypeId} {n : Nat} : ∀ (vs : List Value) (o : Nat) {w : World} {m : Nat → Value}, Row w g t n m → Row (w.setCells g o vs) g t n (fun j => if o ≤ j ∧ j < o + vs.length then vs.getD (j - o) undef else m j)
  | [], o, w, m, h => h.ext fun q hq => by rw [if_neg (by simp)]
  | v :: r, o, w, m, h => by
    refine (Row.setCells r (o + 1) (h.set o v)).ext fun q hq => ?_
    by_cases e : q = o
    · subst e
      rw [if_neg (by omega), if_pos rfl, if_pos (by simp)]
      simp
    · by_cases e2 : o + 1 ≤ q ∧ q < o + 1 + r.length
      · rw [if_pos e2, if_pos (by simp; omega)]
        rw [show q - o = (q - (o + 1)) + 1 by omega]
        simp
      · rw [if_neg e2, if_neg e, if_neg (by simp; omega)]
theorem Only.setCells {S : Nat → Prop} {g : Nat} (hg : S g) : ∀ (vs : List Value) (o : Nat) {w w' : World}, Only S w w' → Only S w (w'.setCells g o vs)
  | [], _, _, _, h => h
  | v :: r, o, _, _, h => Only.setCells hg r (o + 1) (Only.setCell h (fun _ => hg) v)

theorem copyMsgs (n SE IN : Nat) (w : World) (ms ib : Nat → Option Int) (ty : TypeId) (hse : Row w SE 20 (n + 1) (fun k => msgV (ms k))) (hib : Row w IN 20 n (fun k => msgV (ib k))) :
    ∃ w', (Builtin.copy_ #[51, 51] ty #[.slice (some ⟨IN, 0, none⟩) n n, .slice (some ⟨SE, 1, none⟩) n n]).run Yba.prog w = .ok (.int .i64 n) w' ∧ Row w' IN 20 n (fun k => msgV (ms (k + 1))) ∧ Only (fun b => b = IN) w w' := by
  obtain ⟨cs, hcs⟩ : ∃ cs, cs = (List.range n).map (fun k => msgV (ms (k + 1))) := ⟨_, rfl⟩
  have hlen : cs.length = n := by rw [hcs]; simp
  have hget : ∀ j, j < n → cs[j]? = some (msgV (ms (j + 1))) := fun j hj => by rw [hcs]; simp [hj]
  refine ⟨w.setCells IN 0 cs, ?_, ?_, Only.setCells (S := fun b => b = IN) rfl cs 0 Only.refl⟩
  · have := run_copy_cells (P := Yba.prog) w 51 51 ty 20 IN 0 n n ⟨SE, 1, none⟩ n n cs (by kernel_rfl) (by kernel_rfl) (by rw [hlen]; exact (Nat.min_self n).symm) ?_ ?_ ?_ ?_
    · rw [hlen] at this
      exact this
    · intro j v hj
      have hj' : j < n := by
        rw [← hlen]
        exact (List.getElem?_eq_some_iff.1 hj).1
      rw [hget j hj'] at hj
      have := hse.cell (j + 1) (by omega)
      rw [show (⟨SE, 1, none⟩ : Addr).add j = ⟨SE, j + 1, none⟩ by simp [Addr.add, Nat.add_comm]]
      rw [this]
      exact hj
    · intro j hj
      rw [Nat.zero_add, hib.cell j (by omega)]
      rfl
    · intro j hj
      exact hib.frozen _
    · intro v hv
      rw [hcs] at hv
      obtain ⟨k, _, rfl⟩ := List.mem_map.1 hv
      cases ms (k + 1) <;> rfl
  · refine (Row.setCells cs 0 hib).ext fun q hq => ?_
    rw [if_pos (by omega), Nat.sub_zero, List.getD_eq_getElem?_getD, hget q hq]
    rfl
end Go.Proofs.Ybulkcawy
