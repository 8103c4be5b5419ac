/-
  The run's log: a slice of ints in a variable that many write to by a pointer.
-/
import Derived.Test.YbulkcawyProg
import Derived.Test.YbulkcawyRow
import Derived.Test.YbulkcawyVar
import Derived.Deep.AppendLies
import Derived.Great.BuildSlice
namespace Go.Proofs.Ybulkcawy
open Go.RowKit
set_option linter.unusedSimpArgs false
set_option linter.unusedVariables false

def intsV (xs : List Int) : List Value := xs.map (Value.int .i64)
theorem intsV_length (xs : List Int) : (intsV xs).length = xs.length := by simp [intsV]
theorem intsV_append (xs ys : List Int) : intsV (xs ++ ys) = intsV xs ++ intsV ys := by simp [intsV]

/-- The variable in block L holds a slice (its array in block g, from 'base' on) of the numbers xs. -/
def LogAt (w : World) (base L : Nat) (xs : List Int) (g : Option Nat) : Prop :=
  ∃ v, Row w L 29 1 (fun _ => v) ∧ w.ownsRow base 3 1 v xs.length (intsV xs) ∧ v.ownBlock = g

/-- Where the array lies behind an append: where it lay, or in a new block. -/
def NewG (w : World) (g g' : Option Nat) : Prop := ∀ b, g' = some b → g = some b ∨ w.heap.size ≤ b

theorem NewG.refl (w : World) (g : Option Nat) : NewG w g g := fun b h => .inl h
theorem NewG.trans {w w' : World} {g g' g'' : Option Nat} (h : NewG w g g') (k : NewG w' g' g'') (hs : w.heap.size ≤ w'.heap.size) : NewG w g g'' := fun b hb => by
  rcases k b hb with e | e
  · exact h b e
  · exact .inr (by omega)

theorem own_block_lt {w : World} {base : Nat} {e : TypeId} {v : Value} {n b : Nat} {xs : List Value} (h : w.ownsRow base e 1 v n xs) (hb : v.ownBlock = some b) : base ≤ b ∧ b < w.heap.size := by
  rcases own_shape h with ⟨rfl, _⟩ | ⟨g, cp, rfl, h1, h2⟩
  · simp [Value.ownBlock] at hb
  · simp [Value.ownBlock] at hb
    subst hb
    exact ⟨h1, h2⟩
theorem LogAt.block_lt {w : World} {base L b : Nat} {xs : List Int} {g : Option Nat} (h : LogAt w base L xs g) (hb : g = some b) : base ≤ b ∧ b < w.heap.size := by
  obtain ⟨v, _, h2, rfl⟩ := h
  exact own_block_lt h2 hb
theorem own_of_block {w w' : World} {base : Nat} {e : TypeId} {size : Nat} {v : Value} {n : Nat} {xs : List Value} (h : w.ownsRow base e size v n xs) (hb : ∀ g, v.ownBlock = some g → w'.heap[g]? = w.heap[g]?) : w'.ownsRow base e size v n xs := by
  refine ⟨h.1, ?_⟩
  rcases h.2 with hn | ⟨g, cap, cur, rfl, hbs, hgg, rest⟩
  · exact .inl hn
  · exact .inr ⟨g, cap, cur, rfl, hbs, (hb g rfl).trans hgg, rest⟩
theorem LogAt.only {w w' : World} {base L : Nat} {xs : List Int} {g : Option Nat} {S : Nat → Prop} (h : LogAt w base L xs g) (ho : Only S w w') (hL : ¬ S L) (hg : ∀ b, g = some b → ¬ S b) : LogAt w' base L xs g := by
  obtain ⟨v, h1, h2, rfl⟩ := h
  exact ⟨v, h1.only ho hL, own_of_block h2 fun b hb => ho.block b (own_block_lt h2 hb).2 (hg b hb), rfl⟩
theorem LogAt.lt {w : World} {base L : Nat} {xs : List Int} {g : Option Nat} (h : LogAt w base L xs g) : L < w.heap.size := by
  obtain ⟨v, h1, _⟩ := h
  exact h1.lt

/-- The set of blocks that an append to the log may turn. -/
def LogS (L : Nat) (g : Option Nat) : Nat → Prop := fun b => b = L ∨ g = some b

theorem Only.log {w w1 w2 : World} {L : Nat} {g g1 : Option Nat} (h : Only (LogS L g) w w1) (hn : NewG w g g1) (k : Only (LogS L g1) w1 w2) : Only (LogS L g) w w2 :=
  h.trans' k fun b hb hs => by
    rcases hs with hs | hs
    · exact .inl hs
    · rcases hn b hs with e | e
      · exact .inr e
      · omega

/-- A message, as an interface value. -/
def msgV : Option Int → Value
  | none => .nilIface
  | some x => .iface 3 (.int .i64 x)
def codeOf : Option Int → Int
  | none => -1
  | some x => x

theorem info3' : (Yba.prog.info? 3).map (fun i => (i.zero, i.size, i.bytes)) = some (some (.int .i64 0), 1, 8) := by kernel_rfl

def aprocM (id dec got L : Nat) : Nat → Value
  | 0 => .int .i64 id
  | 1 => .int .i64 dec
  | 2 => .int .i64 got
  | 3 => .pointer (some ⟨L, 0, none⟩)
  | _ => undef

/-- The same by a plain statement: the new numbers' row, the append, the store. -/
theorem LogAt.stored {w wa w1 : World} {base L : Nat} {xs ys : List Int} {v0 : Value} (hrow : Row w L 29 1 (fun _ => v0)) (hown : w.ownsRow base 3 1 v0 xs.length (intsV xs)) (hL : L < base) (hwa : Only (fun _ => False) w wa) {g cap : Nat}
    (h1 : w1.ownsRow base 3 1 (.slice (some ⟨g, 0, none⟩) (xs.length + ys.length) cap) (xs.length + ys.length) (intsV xs ++ intsV ys)) (h2 : wa.grownBy w1 v0.ownBlock) (h3 : v0.ownBlock = some g ∨ w.heap.size ≤ g) :
    LogAt (w1.setCell ⟨L, 0, none⟩ (.slice (some ⟨g, 0, none⟩) (xs.length + ys.length) cap)) base L (xs ++ ys) (some g) ∧ NewG w v0.ownBlock (some g) ∧ Only (LogS L v0.ownBlock) w (w1.setCell ⟨L, 0, none⟩ (.slice (some ⟨g, 0, none⟩) (xs.length + ys.length) cap)) := by
  have hg := own_block_lt h1 (b := g) rfl
  have hrow1 : Row w1 L 29 1 (fun _ => v0) := (hrow.only hwa (fun h => h)).grown h2 (fun e => by have := own_block_lt hown e.symm; omega)
  refine ⟨⟨.slice (some ⟨g, 0, none⟩) (xs.length + ys.length) cap, (hrow1.set 0 _).ext fun q hq => by simp [show q = 0 by omega], ?_, rfl⟩, fun b hb => ?_, ?_⟩
  · rw [intsV_append, List.length_append]
    refine own_of_block h1 fun b hb => Below.heap_setCell _ _ _ _ ?_
    have := own_block_lt h1 hb
    show b ≠ L
    omega
  · injection hb with hb
    subst hb
    exact h3
  · refine Only.setCell (Only.grown (hwa.mono (fun _ _ h => h.elim)) h2 (fun k hk _ => .inr hk)) (fun _ => .inl rfl) _

/-! ### A statement that appends to the log through a pointer, whatever order it is carried out in -/
/-- What holds while such a statement is being carried out: 'ib' builds the row of the new numbers, 'ia' appends, 'is' stores. -/
def JLog (w0 : World) (base L : Nat) (v0 : Value) (xs ys : List Int) (ib ia is : Nat) (l : Nat → Bool) (u : Nat → Value) (w : World) : Prop :=
  Only (LogS L v0.ownBlock) w0 w ∧
  (l ib = true → ∃ b, u ib = .slice (some ⟨b, 0, none⟩) ys.length ys.length ∧ w0.heap.size ≤ b ∧ w.heap[b]? = some (.cells (intsV ys).toArray 3 (0, 0))) ∧
  (l ia = false → w.ownsRow base 3 1 v0 xs.length (intsV xs)) ∧
  (l ia = true → ∃ g cap, u ia = .slice (some ⟨g, 0, none⟩) (xs.length + ys.length) cap ∧ w.ownsRow base 3 1 (u ia) (xs.length + ys.length) (intsV xs ++ intsV ys) ∧ (v0.ownBlock = some g ∨ w0.heap.size ≤ g)) ∧
  (l is = false → Row w L 29 1 (fun _ => v0)) ∧
  (l is = true → Row w L 29 1 (fun _ => u ia) ∧ l ia = true)

section
variable {w0 w : World} {base L : Nat} {v0 : Value} {xs ys : List Int} {ib ia is : Nat} {l : Nat → Bool} {u : Nat → Value}

theorem JLog.pure (h : JLog w0 base L v0 xs ys ib ia is l u w) (i : Nat) (h1 : i ≠ ib) (h2 : i ≠ ia) (h3 : i ≠ is) (v : Value) : JLog w0 base L v0 xs ys ib ia is (upd l i) (updv u i v) w := by
  unfold JLog upd updv at *
  simp only [Ne.symm h1, Ne.symm h2, Ne.symm h3, if_false]
  exact h

theorem JLog.build (h : JLog w0 base L v0 xs ys ib ia is l u w) (hba : ib ≠ ia) (hbs : ib ≠ is) (hla : l ia = false) (hls : l is = false) :
    JLog w0 base L v0 xs ys ib ia is (upd l ib) (updv u ib (.slice (some ⟨w.heap.size, 0, none⟩) ys.length ys.length)) (w.alloc (.cells (intsV ys).toArray 3)) := by
  obtain ⟨h1, h2, h3, h4, h5, h6⟩ := h
  refine ⟨h1.alloc _, fun _ => ⟨w.heap.size, by simp [updv], h1.size, heap_alloc_new _ _⟩, fun _ => (h3 hla).alloc _, fun h => ?_, fun _ => (h5 hls).alloc _, fun h => ?_⟩
  · simp [upd, Ne.symm hba, hla] at h
  · simp [upd, Ne.symm hbs, hls] at h

theorem JLog.append (h : JLog w0 base L v0 xs ys ib ia is l u w) (hba : ib ≠ ia) (has : ia ≠ is) (hla : l ia = false) (hls : l is = false) (hbase : base ≤ w0.heap.size) (hL : L < base) (hL0 : L < w0.heap.size)
    (hv0 : ∀ b, v0.ownBlock = some b → b < w0.heap.size) {g cap : Nat} {w' : World} (hown : w'.ownsRow base 3 1 (.slice (some ⟨g, 0, none⟩) (xs.length + ys.length) cap) (xs.length + ys.length) (intsV xs ++ intsV ys))
    (hgrow : w.grownBy w' v0.ownBlock) (hat : v0.ownBlock = some g ∨ g = w.heap.size) :
    JLog w0 base L v0 xs ys ib ia is (upd l ia) (updv u ia (.slice (some ⟨g, 0, none⟩) (xs.length + ys.length) cap)) w' := by
  obtain ⟨h1, h2, h3, h4, h5, h6⟩ := h
  refine ⟨h1.grown hgrow (fun k hk _ => .inr hk), fun hb => ?_, fun h => ?_, fun _ => ⟨g, cap, by simp [updv], by simpa [updv] using hown, ?_⟩, fun _ => ?_, fun h => ?_⟩
  · simp only [upd, hba, if_false] at hb
    obtain ⟨b, e1, e2, e3⟩ := h2 hb
    refine ⟨b, by simpa [updv, hba] using e1, e2, ?_⟩
    rw [hgrow.block b (Array.getElem?_eq_some_iff.1 e3).1 (fun e => by have := hv0 b e.symm; omega)]
    exact e3
  · simp [upd] at h
  · rcases hat with hat | hat
    · exact .inl hat
    · exact .inr (by have := h1.size; omega)
  · exact (h5 hls).grown hgrow (fun e => by
      have := own_block_lt (h3 hla) e.symm
      omega)
  · simp [upd, Ne.symm has, hls] at h

theorem JLog.store (h : JLog w0 base L v0 xs ys ib ia is l u w) (hbs : ib ≠ is) (has : ia ≠ is) (hla : l ia = true) (hls : l is = false) (hbase : base ≤ w0.heap.size) (hL : L < base) :
    JLog w0 base L v0 xs ys ib ia is (upd l is) (updv u is undef) (w.setCell ⟨L, 0, none⟩ (u ia)) := by
  obtain ⟨h1, h2, h3, h4, h5, h6⟩ := h
  refine ⟨h1.setCell (fun _ => .inl rfl) _, fun hb => ?_, fun h => ?_, fun _ => ?_, fun h => ?_, fun _ => ⟨?_, by simpa [upd, has] using hla⟩⟩
  · simp only [upd, hbs, if_false] at hb
    obtain ⟨b, e1, e2, e3⟩ := h2 hb
    refine ⟨b, by simpa [updv, hbs] using e1, e2, ?_⟩
    rw [Below.heap_setCell _ _ _ _ (by show b ≠ L; omega)]
    exact e3
  · simp [upd, has, hla] at h
  · obtain ⟨g, cap, e1, e2, e3⟩ := h4 hla
    refine ⟨g, cap, by simpa [updv, has] using e1, ?_, e3⟩
    simp only [updv, has, if_false]
    refine own_of_block e2 fun b hb => Below.heap_setCell _ _ _ _ ?_
    have := own_block_lt e2 hb
    show b ≠ L
    omega
  · simp [upd] at h
  · have := (h5 hls).set 0 (u ia)
    simp only [updv, has, if_false]
    exact this.ext fun q hq => by simp [show q = 0 by omega]

theorem JLog.done (h : JLog w0 base L v0 xs ys ib ia is l u w) (hs : l is = true) : ∃ g', LogAt w base L (xs ++ ys) g' ∧ NewG w0 v0.ownBlock g' ∧ Only (LogS L v0.ownBlock) w0 w := by
  obtain ⟨h1, h2, h3, h4, h5, h6⟩ := h
  obtain ⟨hr, hla⟩ := h6 hs
  obtain ⟨g, cap, e1, e2, e3⟩ := h4 hla
  refine ⟨some g, ⟨u ia, hr, by simpa [intsV_append] using e2, by rw [e1]; rfl⟩, fun b hb => ?_, h1⟩
  injection hb with hb
  subst hb
  exact e3
end

theorem region_log {ops : Array Oper} {Q : Exit → Act → World → Prop} {id : Nat} (T : Array Value) (N : Nat) (hT : T.size = N) (vals : List (Option Value)) (il ib ia is : Nat) (xs ys : List Int) (base L : Nat) (g0 : Option Nat) (w : World)
    (hlog : LogAt w base L xs g0) (hL : L < base) (hbase : base ≤ w.heap.size) (hys : 0 < ys.length) (hlen : xs.length + ys.length ≤ 1000000)
    (hg : (ops.toList.all fun o => o.guard.isNone) = true)
    (ho : ((List.range ops.size).all fun i => match ops[i]? with | some o => o.after.toList.all fun e => !Region.binds .any e || decide (e.on < i) | none => true) = true)
    (hd : ((List.range ops.size).all fun i => (List.range ops.size).all fun j => i == j || ((ops[i]?).bind Oper.dst).isNone || ((ops[i]?).bind Oper.dst) != ((ops[j]?).bind Oper.dst)) = true)
    (hN : (ops.toList.all fun o => match o.dst with | some d => decide (d < N) | none => true) = true)
    {ob oa os : Oper} (hob : ops[ib]? = some ob) (hoa : ops[ia]? = some oa) (hos : ops[is]? = some os)
    (dl db da dp : Nat) (hdl : (ops[il]?).bind Oper.dst = some dl) (hdb : ob.dst = some db) (hda : oa.dst = some da) (hds : os.dst = none)
    (hopa : oa.op = .call { callee := .builtin .append, args := #[.tmp dl, .tmp db], argTypes := #[29, 29] })
    (hops : os.op = .store 29 (.tmp dp) (.tmp da))
    (hal : (oa.after.toList.any fun e => e.on == il && Region.binds .any e) = true) (hab : (oa.after.toList.any fun e => e.on == ib && Region.binds .any e) = true)
    (hsa : (os.after.toList.any fun e => e.on == ia && Region.binds .any e) = true)
    (hphase : ((List.range ops.size).all fun i => i == is || os.after.toList.any fun e => e.on == i && Region.binds .any e) = true)
    (hvb : vals[ib]? = some none) (hva : vals[ia]? = some none) (hvs : vals[is]? = some none)
    (haddr : ∀ U, U.size = N → Kept ops T U → (∀ e ∈ os.after, Region.binds .any e = true → ∀ x, vals[e.on]? = some (some x) → slotv ops U e.on = x) → U[dp]?.getD undef = .pointer (some ⟨L, 0, none⟩))
    (hvl : ∀ v0, Row w L 29 1 (fun _ => v0) → vals[il]? = some (some v0))
    (hbuild : ∀ U w1, U.size = N → Kept ops T U → (∀ e ∈ ob.after, Region.binds .any e = true → ∀ x, vals[e.on]? = some (some x) → slotv ops U e.on = x) →
      (execOp (Act.eval ⟨U, []⟩) ob).run Yba.prog w1 = .ok (.value (.slice (some ⟨w1.heap.size, 0, none⟩) ys.length ys.length)) (w1.alloc (.cells (intsV ys).toArray 3)))
    (hpure : ∀ i (hi : i < ops.size) (l : Nat → Bool) U w1, i ≠ ib → i ≠ ia → i ≠ is → l is = false → U.size = N → Kept ops T U → Only (LogS L g0) w w1 → (∀ v0, Row w L 29 1 (fun _ => v0) → Row w1 L 29 1 (fun _ => v0)) →
      (∀ e ∈ ops[i].after, Region.binds .any e = true → ∀ x, vals[e.on]? = some (some x) → slotv ops U e.on = x) →
      (ops[i]).wp Yba.prog ⟨U, []⟩ w1 (fun a' w' => w' = w1 ∧ ∃ v, a' = (Act.mk U []).put ops[i].dst v ∧ (ops[i].dst = none → v = undef) ∧ vals[i]? = some (some v)) Q)
    (hend : ∀ U w' g', U.size = N → Kept ops T U → LogAt w' base L (xs ++ ys) g' → NewG w g0 g' → Only (LogS L g0) w w' → (∀ i, i < ops.size → ∀ x, vals[i]? = some (some x) → slotv ops U i = x) → Q .normal ⟨U, []⟩ w') :
    (Code.region id ops true).wp Yba.prog Q ⟨T, []⟩ w := by
  obtain ⟨v0, hrow, hown, rfl⟩ := hlog
  have hil := hvl v0 hrow
  have hLw : L < w.heap.size := hrow.lt
  have hib : ib < ops.size := (Array.getElem?_eq_some_iff.1 hob).1
  have hia : ia < ops.size := (Array.getElem?_eq_some_iff.1 hoa).1
  have his : is < ops.size := (Array.getElem?_eq_some_iff.1 hos).1
  have hba : ib ≠ ia := fun e => by
    subst e
    rw [hob] at hoa
    injection hoa with hoa
    subst hoa
    obtain ⟨e, he, h2⟩ := List.any_eq_true.1 hab
    have := List.all_eq_true.1 ho ib (List.mem_range.2 hib)
    rw [hob] at this
    have := List.all_eq_true.1 this e he
    simp at h2
    simp [h2] at this
  have has : ia ≠ is := fun e => by
    subst e
    rw [hoa] at hos
    injection hos with hos
    subst hos
    rw [hda] at hds
    cases hds
  have hbs : ib ≠ is := fun e => by
    subst e
    rw [hob] at hos
    injection hos with hos
    subst hos
    rw [hdb] at hds
    cases hds
  obtain ⟨i0, hi0, hz0, hz1, hz2⟩ := info_parts info3'
  have hv0 : ∀ b, v0.ownBlock = some b → b < w.heap.size := fun b hb => (own_block_lt hown hb).2
  refine region_vars (by kernel_rfl) T N hT (fun i v _ => ∀ x, vals[i]? = some (some x) → v = x) (JLog w base L v0 xs ys ib ia is) (fun _ _ _ => True) hg ho hd hN (fun _ _ _ _ _ _ h _ => h) ?_ ?_ ?_
  · intro i hi l U w1 hli hcl hJ hU hK hdep
    have hdep' : ∀ e ∈ ops[i].after, Region.binds .any e = true → ∀ x, vals[e.on]? = some (some x) → slotv ops U e.on = x := fun e he hb => (hdep e he hb).2
    have key : i ≠ is → l is = false := fun hne => by
      rcases Bool.eq_false_or_eq_true (l is) with h | h
      · exfalso
        have h2 := List.all_eq_true.1 hphase i (List.mem_range.2 hi)
        simp only [Bool.or_eq_true, beq_iff_eq, List.any_eq_true, Bool.and_eq_true] at h2
        rcases h2 with h2 | ⟨e, he, h2, h3⟩
        · exact hne h2
        · have := hcl is os hos h e (by simpa using he) h3
          rw [h2, hli] at this
          cases this
      · exact h
    by_cases e1 : i = ib
    · subst e1
      have e : ops[i] = ob := by have := Array.getElem?_eq_getElem hi; rw [hob] at this; exact (Option.some.inj this).symm
      rw [e] at hdep' ⊢
      have hla : l ia = false := by
        obtain ⟨e, he, h3⟩ := List.any_eq_true.1 hab
        simp at h3
        exact hcl.not hli hoa (by simpa using he) h3.2 h3.1
      refine step_of_run (hbuild U w1 hU hK hdep') ⟨_, rfl, (fun h => by rw [hdb] at h; cases h), (fun x hx => by rw [hvb] at hx; cases hx), trivial, hJ.build hba hbs hla (key hbs)⟩
    · by_cases e2 : i = ia
      · subst e2
        have e : ops[i] = oa := by have := Array.getElem?_eq_getElem hi; rw [hoa] at this; exact (Option.some.inj this).symm
        rw [e] at hdep hdep' ⊢
        obtain ⟨el, hel, h3⟩ := List.any_eq_true.1 hal
        obtain ⟨eb, heb, h4⟩ := List.any_eq_true.1 hab
        simp at h3 h4
        have hsl : slotv ops U il = v0 := by
          have := hdep' el (by simpa using hel) h3.2 v0 (by rw [h3.1]; exact hil)
          rwa [h3.1] at this
        have hlb : l ib = true := by
          have := (hdep eb (by simpa using heb) h4.2).1
          rwa [h4.1] at this
        obtain ⟨b, hb1, hb2, hb3⟩ := hJ.2.1 hlb
        have hJ3 := hJ.2.2.1 hli
        refine wp_append_lies w1 (.tmp dl) (.tmp db) 29 hopa base 3 i0 (.int .i64 0) 1 8 Yba.underlying29 hi0 hz0 hz1 hz2 rfl (by decide) v0 xs.length (intsV xs) ?_ hJ3 ⟨b, 0, none⟩ ys.length ys.length (intsV ys) ?_ (by simp [intsV]) (World.news_of_block hb3) ?_ hys ?_ ?_ ?_ _ rfl ?_
        · have : slotv ops U il = U.getD dl undef := by unfold slotv; rw [hdl]
          rw [← hsl, this]; rfl
        · have : slotv ops U ib = U.getD db undef := by unfold slotv; rw [hob]; simp [hdb]
          rw [← hb1, this]; rfl
        · intro u hu
          simp [intsV] at hu
          obtain ⟨a, _, rfl⟩ := hu
          rfl
        · show _ ≤ 9223372036854775807
          omega
        · omega
        · have := hJ.1.size
          omega
        · intro g cap w' h2 h3 h4 h5
          refine ⟨_, rfl, (fun h => by rw [hda] at h; cases h), (fun x hx => by rw [hva] at hx; cases hx), trivial, hJ.append hba has hli (key has) hbase hL hLw hv0 h2 h3 h4⟩
      · by_cases e3 : i = is
        · subst e3
          have e : ops[i] = os := by have := Array.getElem?_eq_getElem hi; rw [hos] at this; exact (Option.some.inj this).symm
          rw [e] at hdep hdep' ⊢
          obtain ⟨el, hel, h3⟩ := List.any_eq_true.1 hsa
          simp at h3
          have hla : l ia = true := by
            have := (hdep el (by simpa using hel) h3.2).1
            rwa [h3.1] at this
          have hrowL := hJ.2.2.2.2.1 hli
          have hp' : U.getD dp undef = .pointer (some ⟨L, 0, none⟩) := by
            have := haddr U hU hK hdep'
            simpa using this
          have hu' : U.getD da undef = slotv ops U ia := by
            unfold slotv; rw [hoa]; simp [hda]
          obtain ⟨g, cap, hg1, _⟩ := hJ.2.2.2.1 hla
          refine step_of_skip (w' := w1.setCell ⟨L, 0, none⟩ (slotv ops U ia)) ?_ ⟨undef, rfl, fun _ => rfl, (fun x hx => by rw [hvs] at hx; cases hx), trivial, hJ.store hbs has hla hli hbase hL⟩
          have hc := hrowL.cell 0 (by omega)
          have hf := hrowL.frozen 0
          have he1 : Act.eval ⟨U, []⟩ (.tmp dp) = .pointer (some ⟨L, 0, none⟩) := hp'
          have he2 : Act.eval ⟨U, []⟩ (.tmp da) = slotv ops U ia := hu'
          unfold execOp
          rw [hops]
          simp only [he1, he2, hg1]
          simp [go_sem, hc, hf]
        · have hJ1 := hJ.1
          refine Oper.wp_mono ?_ (hpure i hi l U w1 e1 e2 e3 (key e3) hU hK hJ1 (fun v hv => ?_) hdep')
          · rintro a' w' ⟨rfl, v, rfl, h1, h2⟩
            refine ⟨v, rfl, h1, fun x hx => ?_, trivial, hJ.pure i e1 e2 e3 v⟩
            rw [h2] at hx
            exact Option.some.inj (Option.some.inj hx)
          · have hr := hJ.2.2.2.2.1 (key e3)
            have : v = v0 := by
              have h1 := hv.cell 0 (by omega)
              have h2 := hrow.cell 0 (by omega)
              rw [h1] at h2
              exact Option.some.inj h2
            rw [this]
            exact hr
  · intro U w' hU hK hJ hall
    obtain ⟨g', h1, h2, h3⟩ := hJ.done (by simp [his])
    exact hend U w' g' hU hK h1 h2 h3 hall
  · refine ⟨Only.refl.drew, (fun h => by cases h), fun _ => own_of_block hown fun _ _ => rfl, fun h => (by cases h), fun _ => hrow.drew, (fun h => by cases h)⟩
end Go.Proofs.Ybulkcawy
