/-
  THE FRAME AS A VARIABLE ARRAY: what a walk needs of a great frame is what its slots hold. Laws for that: 'Keeps' (which slots may have turned), a region that draws its order over such a frame ('region_vars'), 'Only' (which blocks may have turned).
-/
import Derived.WalkKit
import Derived.Orders
import Derived.Test.YbulkcawyRow
import Derived.Test.YbulkcawyRegion
namespace Go.Proofs.Ybulkcawy
open Go.RowKit
set_option linter.unusedSimpArgs false
set_option linter.unusedVariables false

/-- T' is T but for the slots from lo to hi and those listed. -/
def Keeps (lo hi : Nat) (vs : List Nat) (T T' : Array Value) : Prop :=
  T'.size = T.size ∧ ∀ i, i ∉ vs → ¬ (lo ≤ i ∧ i ≤ hi) → T'[i]? = T[i]?

section
variable {lo hi : Nat} {vs : List Nat} {T T' T'' : Array Value}
theorem Keeps.refl : Keeps lo hi vs T T := ⟨rfl, fun _ _ _ => rfl⟩
theorem Keeps.size (h : Keeps lo hi vs T T') : T'.size = T.size := h.1
theorem Keeps.put (h : Keeps lo hi vs T T') (d : Nat) (v : Value) (hd : (d ∈ vs) ∨ (lo ≤ d ∧ d ≤ hi)) : Keeps lo hi vs T (T'.setIfInBounds d v) := by
  refine ⟨by simpa using h.1, fun i h1 h2 => ?_⟩
  rw [Array.getElem?_setIfInBounds_ne (by rintro rfl; rcases hd with hd | hd; exact h1 hd; exact h2 hd)]
  exact h.2 i h1 h2
theorem Keeps.trans (h : Keeps lo hi vs T T') (k : Keeps lo hi vs T' T'') : Keeps lo hi vs T T'' :=
  ⟨k.1.trans h.1, fun i h1 h2 => (k.2 i h1 h2).trans (h.2 i h1 h2)⟩
theorem Keeps.mono {lo' hi' : Nat} {vs' : List Nat} (h : Keeps lo hi vs T T') (hv : ∀ i ∈ vs, i ∈ vs' ∨ (lo' ≤ i ∧ i ≤ hi')) (h1 : lo' ≤ lo) (h2 : hi ≤ hi') : Keeps lo' hi' vs' T T' :=
  ⟨h.1, fun i k1 k2 => h.2 i (fun k => by rcases hv i k with k | k; exact k1 k; exact k2 k) (fun k => k2 ⟨by omega, by omega⟩)⟩
theorem Keeps.at (h : Keeps lo hi vs T T') {i : Nat} {v : Value} (hT : i < T.size) (hT' : i < T'.size) (hv : T[i] = v) (h1 : i ∉ vs) (h2 : ¬ (lo ≤ i ∧ i ≤ hi)) : T'[i] = v := by
  have := h.2 i h1 h2
  rw [Array.getElem?_eq_getElem hT, Array.getElem?_eq_getElem hT', hv] at this
  exact Option.some.inj this
end

theorem at_of {U : Array Value} {j : Nat} {v : Value} (hj : j < U.size) (h : U[j]?.getD undef = v) : U[j] = v := by
  rw [Array.getElem?_eq_getElem hj] at h
  exact h

theorem kept_of {ops : Array Oper} {T U : Array Value} (h : ∀ j : Nat, (ops.toList.all fun o => o.dst != some j) = true → U[j]? = T[j]?) (j : Nat) (hj : (ops.toList.all fun o => o.dst != some j) = true) {v : Value} (hv : T[j]?.getD undef = v) : U[j]?.getD undef = v := by
  rw [h j hj]; exact hv

theorem Kept.at {ops : Array Oper} {T U : Array Value} (h : ∀ j : Nat, (ops.toList.all fun o => o.dst != some j) = true → U[j]? = T[j]?) {j : Nat} (hj : (ops.toList.all fun o => o.dst != some j) = true) : U.getD j undef = T.getD j undef := by
  simp only [Array.getD_eq_getD_getElem?, h j hj]

theorem wp_cond_at {P : Program} {c : Operand} {x y : Code} {Q : Exit → Act → World → Prop} {a : Act} {w : World} (t : Bool) (hc : a.eval c = .bool t) (ht : t = true → x.wp P Q a w)
    (hf : t = false → y.wp P Q a w) : (Code.cond c x y).wp P Q a w := wp_cond_split hc ht hf

/-- A loop over a frame that is a variable: 'I k': k bounds the rounds that are left. -/
theorem wp_loop_n {P : Program} {c : Code} {Q : Exit → Act → World → Prop} (I : Nat → Array Value → World → Prop)
    (round : ∀ k T w, I k T w → c.wp P (Exit.then (fun a' w' => a'.defers = [] ∧ ∃ k', k' < k ∧ I k' a'.tmps w') Q) ⟨T, []⟩ w) (n : Nat) (T : Array Value) (w : World) (h : I n T w) : (Code.loop c).wp P Q ⟨T, []⟩ w := by
  intro b k cs
  have key : ∀ n T w, I n T w →
      ∃ e a' w', Q e a' w' ∧ Arrives P (lone (b.at ⟨T, []⟩ (.code c :: .inLoop c :: k)) cs w) b k cs e a' w' := by
    intro n
    induction n using Nat.strongRecOn with
    | _ n ih =>
      intro T w hI
      obtain ⟨e, a₁, w₁, hq, harr⟩ := round n T w hI b (.inLoop c :: k) cs
      cases e with
      | normal =>
        obtain ⟨hd, k', hlt, hI₁⟩ := hq
        obtain ⟨T₁, d₁⟩ := a₁
        subst hd
        obtain ⟨e₂, a₂, w₂, hq₂, harr₂⟩ := ih k' hlt T₁ w₁ hI₁
        exact ⟨e₂, a₂, w₂, hq₂, .of_steps (Steps.trans harr (.one step_inLoop)) harr₂⟩
      | exit id => exact ⟨_, a₁, w₁, hq, .pass (x := .inLoop c) rfl (fun _ _ => .inl (by simp)) harr⟩
      | goto l => exact ⟨_, a₁, w₁, hq, .pass (x := .inLoop c) rfl (fun _ _ => .inl (by simp)) harr⟩
      | ret => exact ⟨_, a₁, w₁, hq, .pass (x := .inLoop c) rfl (fun _ _ => .inl (by simp)) harr⟩
      | panic ch => exact ⟨_, a₁, w₁, hq, .pass (x := .inLoop c) rfl (fun _ _ => .inl (by simp)) harr⟩
      | outgrown => exact ⟨_, a₁, w₁, hq, .pass (x := .inLoop c) rfl (fun _ _ => .inl (by simp)) harr⟩
  obtain ⟨e, a', w', hq, harr⟩ := key n T w h
  exact ⟨e, a', w', hq, .of_steps (.one step_loop) harr⟩

/-! ### A region that draws its order -/
def slotv (ops : Array Oper) (U : Array Value) (k : Nat) : Value :=
  match (ops[k]?).bind Oper.dst with
  | some d => U.getD d undef
  | none => undef

theorem slot_of {ops : Array Oper} {U : Array Value} {k d : Nat} {x : Value} (h : slotv ops U k = x) (hd : (ops[k]?).bind Oper.dst = some d) : U[d]?.getD undef = x := by
  rw [← h]; unfold slotv; rw [hd]; simp

def upd (l : Nat → Bool) (i : Nat) : Nat → Bool := fun k => if k = i then true else l k
def updv (u : Nat → Value) (i : Nat) (v : Value) : Nat → Value := fun k => if k = i then v else u k

def Kept (ops : Array Oper) (T U : Array Value) : Prop := ∀ j : Nat, (ops.toList.all fun o => o.dst != some j) = true → U[j]? = T[j]?

def ClosedL (ops : Array Oper) (l : Nat → Bool) : Prop :=
  ∀ k o, ops[k]? = some o → l k = true → ∀ e ∈ o.after, Region.binds .any e = true → l e.on = true

section
variable {P : Program} {ops : Array Oper} {Q : Exit → Act → World → Prop}

/-- What waits for i is not listed while i is not. -/
theorem ClosedL.not {l : Nat → Bool} (h : ClosedL ops l) {i k : Nat} (hi : l i = false) {o : Oper} (ho : ops[k]? = some o) {e : Edge} (he : e ∈ o.after) (hb : Region.binds .any e = true) (hon : e.on = i) : l k = false := by
  rcases Bool.eq_false_or_eq_true (l k) with hk | hk
  · have := h k o ho hk e he hb
    rw [hon, hi] at this
    cases this
  · exact hk

theorem region_vars {id : Nat} (hm : P.follows .mixedOrders = true) (T : Array Value) (N : Nat) (hT : T.size = N)
    (φ : Nat → Value → World → Prop) (J : (Nat → Bool) → (Nat → Value) → World → Prop) (R : Nat → World → World → Prop)
    (hg : (ops.toList.all fun o => o.guard.isNone) = true)
    (ho : ((List.range ops.size).all fun i => match ops[i]? with | some o => o.after.toList.all fun e => !Region.binds .any e || decide (e.on < i) | none => true) = true)
    (hd : ((List.range ops.size).all fun i => (List.range ops.size).all fun j => i == j || ((ops[i]?).bind Oper.dst).isNone || ((ops[i]?).bind Oper.dst) != ((ops[j]?).bind Oper.dst)) = true)
    (hN : (ops.toList.all fun o => match o.dst with | some d => decide (d < N) | none => true) = true)
    (mono : ∀ i k v w w', k ≠ i → φ k v w → R i w w' → φ k v w')
    (hstep : ∀ i (hi : i < ops.size) (l : Nat → Bool) U w, l i = false → ClosedL ops l → J l (slotv ops U) w → U.size = N →
      Kept ops T U →
      (∀ e ∈ ops[i].after, Region.binds .any e = true → l e.on = true ∧ φ e.on (slotv ops U e.on) w) →
      (ops[i]).wp P ⟨U, []⟩ w (fun a' w' => ∃ v, a' = (Act.mk U []).put ops[i].dst v ∧ (ops[i].dst = none → v = undef) ∧ φ i v w' ∧ R i w w' ∧ J (upd l i) (updv (slotv ops U) i v) w') Q)
    (hend : ∀ U w, U.size = N → Kept ops T U → J (fun k => decide (k < ops.size)) (slotv ops U) w →
      (∀ i, i < ops.size → φ i (slotv ops U i) w) → Q .normal ⟨U, []⟩ w)
    {w : World} (hJ : J (fun _ => false) (slotv ops T) w.drew) : (Code.region id ops true).wp P Q ⟨T, []⟩ w := by
  have hguard : ∀ i (hi : i < ops.size), ops[i].guard = none := fun i hi => by
    have := List.all_eq_true.1 hg ops[i] (by simp)
    simpa using this
  have hon : ∀ i (hi : i < ops.size) e, e ∈ ops[i].after → Region.binds .any e = true → e.on < i := fun i hi e he hb => by
    have := List.all_eq_true.1 ho i (List.mem_range.2 hi)
    rw [Array.getElem?_eq_getElem hi] at this
    have := List.all_eq_true.1 this e (by simpa using he)
    simpa [hb] using this
  have hdd : ∀ i j d, i < ops.size → j < ops.size → (ops[i]?).bind Oper.dst = some d → (ops[j]?).bind Oper.dst = some d → i = j := fun i j d hi hj h1 h2 => by
    have := List.all_eq_true.1 (List.all_eq_true.1 hd i (List.mem_range.2 hi)) j (List.mem_range.2 hj)
    rw [h1, h2] at this
    simpa using this
  have hNN : ∀ i (hi : i < ops.size) d, ops[i].dst = some d → d < N := fun i hi d h => by
    have := List.all_eq_true.1 hN ops[i] (by simp)
    rw [h] at this
    simpa using this
  -- what a put does to the slots' values
  have hslot : ∀ (U : Array Value) i (hi : i < ops.size) v, U.size = N → (ops[i].dst = none → v = undef) → slotv ops ((Act.mk U []).put ops[i].dst v).tmps = updv (slotv ops U) i v := fun U i hi v hU hv => by
    funext k
    unfold slotv updv
    have hoi : ops[i]? = some ops[i] := Array.getElem?_eq_getElem hi
    cases hdi : ops[i].dst with
    | none =>
      simp only [Act.put]
      by_cases e : k = i
      · subst e
        simp [hoi, hdi, hv hdi]
      · simp [e]
    | some d =>
      simp only [Act.put]
      by_cases e : k = i
      · subst e
        have := hNN k hi d hdi
        simp [hoi, hdi, Array.getD, hU, this]
      · simp only [e, if_false]
        cases hdk : (ops[k]?).bind Oper.dst with
        | none => rfl
        | some d' =>
          have hk : k < ops.size := by
            rcases Nat.lt_or_ge k ops.size with h | h
            · exact h
            · simp [Array.getElem?_eq_none h] at hdk
          have hne : d ≠ d' := fun h => e (hdd k i d' hk hi hdk (by rw [hoi]; simp [hdi, h]))
          simp only [Array.getD_eq_getD_getElem?]
          rw [Array.getElem?_setIfInBounds_ne hne]
  refine wp_region_any hm ?_
  refine wpAny_inv (fun l a w => ∃ U, a = ⟨U, []⟩ ∧ U.size = N ∧ Kept ops T U ∧ ClosedL ops (fun k => l.getD k false) ∧
      J (fun k => l.getD k false) (slotv ops U) w ∧ ∀ i, i < ops.size → l.getD i false = true → φ i (slotv ops U i) w) ?_ ?_ ops.size _ _ _ (by simp) ?_ ⟨T, rfl, hT, fun _ _ => rfl, ?_, ?_, fun i hi h => ?_⟩
  · rintro l a w i hl ⟨U, rfl, hU, hkeep, hcl, hJ, hu⟩ hi
    obtain ⟨h1, h2, h3⟩ := ready_mem hi
    have hoi : ops[i]? = some ops[i] := Array.getElem?_eq_getElem h1
    have hlf : l.getD i false = false := by
      have : l.getD i true = l.getD i false := by simp [Array.getD, hl, h1]
      rw [← this]; exact h2
    have h4 := hstep i h1 (fun k => l.getD k false) U w hlf hcl hJ hU hkeep (fun e he hb => ⟨h3 _ hoi e he hb, hu e.on (Nat.lt_trans (hon i h1 e he hb) h1) (h3 _ hoi e he hb)⟩)
    unfold wpOp
    simp only [hoi]
    rw [if_pos (by simp [Region.wanted, hguard i h1])]
    refine Or.inl (Oper.wp_mono ?_ h4)
    rintro a' w' ⟨v, rfl, hv0, hv, hb, hJ'⟩
    have hlk : (fun k => (l.setIfInBounds i true).getD k false) = upd (fun k => l.getD k false) i := by
      funext k
      unfold upd
      by_cases e : k = i
      · subst e; simp [Array.getD, hl, h1]
      · by_cases hk : k < ops.size
        · simp [Array.getD, hl, hk, e, Array.getElem_setIfInBounds, Ne.symm e]
        · simp [Array.getD, hl, hk, e]
    have hsl := hslot U i h1 v hU hv0
    refine ⟨((Act.mk U []).put ops[i].dst v).tmps, ?_, ?_, ?_, ?_, ?_, ?_⟩
    · cases ops[i].dst <;> rfl
    · rw [← hU]; cases ops[i].dst <;> simp [Act.put]
    · intro j hj
      rw [← hkeep j hj]
      cases hdi : ops[i].dst with
      | none => rfl
      | some d =>
        simp only [Act.put]
        rw [Array.getElem?_setIfInBounds_ne]
        rintro rfl
        have := List.all_eq_true.1 hj ops[i] (by simp)
        rw [hdi] at this
        simp at this
    · rw [hlk]
      intro k o hko hk e he hbe
      unfold upd at hk ⊢
      by_cases e2 : e.on = i
      · simp [e2]
      · rw [if_neg e2]
        by_cases e3 : k = i
        · subst e3
          rw [hoi] at hko
          injection hko with hko
          subst hko
          exact h3 _ hoi e he hbe
        · rw [if_neg e3] at hk
          exact hcl k o hko hk e he hbe
    · rw [hlk, hsl]; exact hJ'
    · intro k hk hlk'
      have hlk'' : upd (fun k => l.getD k false) i k = true := by rw [← hlk]; exact hlk'
      rw [hsl]
      unfold updv
      by_cases e : k = i
      · subst e; simpa using hv
      · simp only [e, if_false]
        unfold upd at hlk''
        rw [if_neg e] at hlk''
        exact mono i k _ w w' e (hu k hk hlk'') hb
  · rintro l a w hl ⟨U, rfl, hU, hkeep, hcl, hJ, hu⟩ hr
    have key : ∀ k, k < ops.size → l.getD k false = true := by
      intro k
      induction k using Nat.strongRecOn with
      | ind k ih =>
        intro hk
        rcases Bool.eq_false_or_eq_true (l.getD k false) with h | h
        · exact h
        · exfalso
          have hm : k ∈ Region.ready .any ops l := by
            simp only [Region.ready, List.mem_filter, List.mem_range, Bool.and_eq_true, Bool.not_eq_true']
            refine ⟨hk, ?_, ?_⟩
            · have : l.getD k true = l.getD k false := by simp [Array.getD, hl, hk]
              rw [this, h]
            · rw [Array.getElem?_eq_getElem hk]
              simp only [Option.map_some, Option.getD_some, Array.all_eq_true', Bool.or_eq_true, Bool.not_eq_true']
              intro e he
              rcases Bool.eq_false_or_eq_true (Region.binds .any e) with hb | hb
              · exact Or.inr (ih e.on (hon k hk e he hb) (Nat.lt_trans (hon k hk e he hb) hk))
              · exact Or.inl hb
          rw [hr] at hm
          cases hm
    have hlk : (fun k => l.getD k false) = fun k => decide (k < ops.size) := by
      funext k
      by_cases hk : k < ops.size
      · simp only [key k hk, hk, decide_true]
      · simp [Array.getD, hl, hk]
    rw [hlk] at hJ
    exact hend U w hU hkeep hJ (fun i hi => hu i hi (key i hi))
  · refine Nat.le_trans List.countP_le_length (by simp)
  · intro k o _ hk
    simp [Array.getD] at hk
  · have : (fun k => (Array.replicate ops.size false).getD k false) = fun _ => false := by
      funext k; simp [Array.getD]
    rw [this]
    exact hJ
  · simp [Array.getD, hi] at h
end

theorem Row.newL (w : World) (cs : List Value) (t : TypeId) : Row (w.alloc (.cells cs.toArray t)) w.heap.size t cs.length (fun k => cs.getD k undef) :=
  Row.new w cs t _ (fun k hk => by rw [List.getD_eq_getElem?_getD, List.getElem?_eq_getElem hk]; rfl)

/-! ### Which blocks may have turned -/
structure Only (S : Nat → Prop) (w w' : World) : Prop where
  os : w'.os = w.os
  tape : w'.tape = w.tape
  output : w'.output = w.output
  size : w.heap.size ≤ w'.heap.size
  block : ∀ k, k < w.heap.size → ¬ S k → w'.heap[k]? = w.heap[k]?

section
variable {S S' : Nat → Prop} {w w' w'' : World}
theorem Only.refl : Only S w w := ⟨rfl, rfl, rfl, Nat.le_refl _, fun _ _ _ => rfl⟩
theorem Only.trans (h : Only S w w') (k : Only S w' w'') : Only S w w'' :=
  ⟨k.os.trans h.os, k.tape.trans h.tape, k.output.trans h.output, Nat.le_trans h.size k.size, fun i hi hs => (k.block i (Nat.lt_of_lt_of_le hi h.size) hs).trans (h.block i hi hs)⟩
/-- The second step may touch what is new as well. -/
theorem Only.trans' (h : Only S w w') (k : Only S' w' w'') (hs : ∀ b, b < w.heap.size → S' b → S b) : Only S w w'' :=
  ⟨k.os.trans h.os, k.tape.trans h.tape, k.output.trans h.output, Nat.le_trans h.size k.size, fun i hi hn => (k.block i (Nat.lt_of_lt_of_le hi h.size) (fun e => hn (hs i hi e))).trans (h.block i hi hn)⟩
theorem Only.mono (h : Only S w w') (hs : ∀ b, b < w.heap.size → S b → S' b) : Only S' w w' :=
  ⟨h.os, h.tape, h.output, h.size, fun i hi hn => h.block i hi (fun e => hn (hs i hi e))⟩
theorem Only.drew (h : Only S w w') : Only S w w'.drew := ⟨h.os, h.tape, h.output, h.size, h.block⟩
theorem Only.drewN (h : Only S w w') (k : Nat) : Only S w (w'.drewN k) := ⟨h.os, h.tape, h.output, h.size, h.block⟩
theorem Only.alloc (h : Only S w w') (o : Obj) : Only S w (w'.alloc o) :=
  h.trans ⟨rfl, rfl, rfl, by simp, fun k hk _ => Below.heap_alloc _ _ _ hk⟩
theorem Only.setCell (h : Only S w w') {p : Addr} (hp : p.block < w.heap.size → S p.block) (u : Value) : Only S w (w'.setCell p u) := by
  refine ⟨h.os, h.tape, h.output, by simpa [World.setCell] using h.size, fun k hk hs => ?_⟩
  rw [Below.heap_setCell _ _ _ _ (by rintro rfl; exact hs (hp hk))]
  exact h.block k hk hs
theorem Only.grown {row : Option Nat} (h : Only S w w') (hg : w'.grownBy w'' row) (hr : ∀ k, row = some k → k < w.heap.size → S k) : Only S w w'' :=
  ⟨hg.os.trans h.os, hg.tape.trans h.tape, hg.output.trans h.output, Nat.le_trans h.size hg.size, fun k hk hs => (hg.block k (Nat.lt_of_lt_of_le hk h.size) (fun e => hs (hr k e.symm hk))).trans (h.block k hk hs)⟩
theorem Only.below (h : Only S w w') {B : Nat} (hB : B ≤ w.heap.size) (hs : ∀ b, S b → B ≤ b) : Below B w w' :=
  ⟨h.os, h.tape, h.output, h.size, fun k hk => h.block k (by omega) (fun e => by have := hs k e; omega)⟩
theorem Only.of_below {B : Nat} (h : Below B w w') : Only (fun b => B ≤ b) w w' :=
  ⟨h.os, h.tape, h.output, h.size, fun k hk hn => h.block k (by omega)⟩
theorem Row.only {g : Nat} {t : TypeId} {n : Nat} {m : Nat → Value} (h : Row w g t n m) (ho : Only S w w') (hg : ¬ S g) : Row w' g t n m := h.of_block (ho.block g h.lt hg)
end
end Go.Proofs.Ybulkcawy
