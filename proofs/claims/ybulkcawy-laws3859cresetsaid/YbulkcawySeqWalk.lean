/-
  The walk of LawS3859BSequence (function 5).
-/
import Derived.Test.YbulkcawySeq
namespace Go.Proofs.Ybulkcawy
open Go.RowKit
set_option linter.unusedVariables false

/-- A slice of integers that came in: nil; or a row of 'cap' cells, the numbers zs. -/
def IsRow (k : IntKind) (w : World) (a : Option Addr) (len cap : Nat) (zs : List Int) : Prop :=
  (a = none ∧ len = 0 ∧ cap = 0 ∧ zs = []) ∨
  ∃ x, a = some x ∧ len ≤ cap ∧ cap ≤ maxLen ∧ zs.length = cap ∧ (∀ i, i < zs.length → w.cell? (x.add i) = some (.int k (zs.getD i 0))) ∧ ∀ n ∈ zs, (Lit.int k n).wf = true
/-- A slice of bools that came in. -/
def IsBools (w : World) (a : Option Addr) (len cap : Nat) (B : Nat → Bool) : Prop :=
  (a = none ∧ len = 0 ∧ cap = 0) ∨ ∃ x, a = some x ∧ len ≤ cap ∧ cap ≤ maxLen ∧ ∀ i, i < cap → w.cell? (x.add i) = some (.bool (B i))
theorem bools_at {w : World} {a : Option Addr} {len cap : Nat} {B : Nat → Bool} (h : IsBools w a len cap B) {k : Nat} (hk : k < len) :
    ∃ b off, a = some ⟨b, off, none⟩ ∧ b < w.heap.size ∧ w.cell? ⟨b, off + k, none⟩ = some (.bool (B k)) := by
  rcases h with ⟨_, h, _⟩ | ⟨x, rfl, hl, _, hc⟩
  · omega
  · obtain ⟨b, off, spot⟩ := x
    have h0 := hc k (by omega)
    have hspot : spot = none := by simpa [Addr.add] using World.cell?_spot (hc 0 (by omega))
    subst hspot
    rw [Addr.add_lit] at h0
    exact ⟨b, off, rfl, World.block_lt_of_cell? _ _ h0, h0⟩
theorem ints_at' {kd : IntKind} {w : World} {a : Option Addr} {len cap : Nat} {zs : List Int} (h : IsRow kd w a len cap zs) {k : Nat} (hk : k < len) :
    ∃ b off, a = some ⟨b, off, none⟩ ∧ b < w.heap.size ∧ w.cell? ⟨b, off + k, none⟩ = some (.int kd (zs.getD k 0)) := by
  rcases h with ⟨_, h, _⟩ | ⟨x, rfl, hl, _, hz, hc, _⟩
  · omega
  · obtain ⟨b, off, spot⟩ := x
    have h0 := hc k (by omega)
    have hspot : spot = none := by simpa [Addr.add] using World.cell?_spot (hc 0 (by omega))
    subst hspot
    rw [Addr.add_lit] at h0
    exact ⟨b, off, rfl, World.block_lt_of_cell? _ _ h0, h0⟩

/-- The option at place i. -/
def optOf (zs : List Int) (lenB : Nat) (B : Nat → Bool) (i : Nat) : Option Int := if i < lenB ∧ B i = true then none else some (zs.getD i 0)

theorem info115 : (Yba.prog.info? 115).map (fun i => (i.zero, i.size, i.bytes)) = some (some .nilIface, 1, 16) := by kernel_rfl

theorem OptAt.grown {w w' : World} {v : Value} {x : Option Int} {base n : Nat} {r : Value} {xs : List Value} (h : OptAt w v x) (ho : w.ownsRow base 115 1 r n xs) (hg : w.grownBy w' r.ownBlock) : OptAt w' v x := by
  cases x with
  | none => exact h
  | some m =>
    obtain ⟨b, h1, h2⟩ := h
    refine ⟨b, h1, (hg.block b (Array.getElem?_eq_some_iff.1 h2).1 fun e => ?_).trans h2⟩
    rcases ho.2 with ⟨rfl, _⟩ | ⟨g, cap, cur, rfl, _, hh, _⟩
    · simp [Value.ownBlock] at e
    · simp [Value.ownBlock] at e
      subst e
      rw [hh] at h2
      simp at h2
theorem OptAt.alloc {w : World} {v : Value} {x : Option Int} (h : OptAt w v x) (o : Obj) : OptAt (w.alloc o) v x := h.below ((Below.refl _ _).alloc (Nat.le_refl _) _)
theorem snoc_getD {vals : List Value} {k : Nat} (hk : vals.length = k) (u : Value) (j : Nat) : (vals ++ [u]).getD j undef = if j = k then u else vals.getD j undef := by
  subst hk
  by_cases e : j = vals.length
  · subst e; simp
  · by_cases h : j < vals.length
    · simp [List.getD, e, List.getElem?_append_left h]
    · have h' : vals.length < j := by omega
      simp [List.getD, e, List.getElem?_append, h, Nat.sub_ne_zero_of_lt h']

theorem new_one {wr : World} {o : Obj} (x : Value) (t : TypeId) {H : Nat} (hH : wr.heap.size + 1 = H) (j : Nat) (u : Value) (h : [x][j]? = some u) :
    ((wr.alloc o).alloc (.cells #[x] t)).cell? ((⟨H, 0, none⟩ : Addr).add j) = some u := by
  have := cell_one_new (wr.alloc o) x t j u h
  simpa [hH] using this

theorem seq_long (a0 a1 : Option Addr) (l0 c0 l1 c1 : Nat) (w : World) (hl : 1024 < l0) :
    Calls Yba.prog 5 #[.slice a0 l0 c0, .slice a1 l1 c1] w fun e w' => e = .returned (.bool true) ∧ Below w.heap.size w w' := by
  have h : (1024 : Int) < (l0 : Int) := by omega
  go_enter Yba.func5, Yba.ntmps5
  go_wp2
  go_ret
  exact ⟨rfl, Below.refl _ _⟩

set_option maxRecDepth 100000 in
set_option maxHeartbeats 2000000 in
theorem seq_walk (a0 a1 : Option Addr) (l0 c0 l1 c1 : Nat) (zs : List Int) (B : Nat → Bool) (w : World) (hl : l0 ≤ 1024) (hm1 : c1 ≤ maxLen) (hlc : l1 ≤ c1) (hz : IsRow .i64 w a0 l0 c0 zs) (hB : IsBools w a1 l1 c1 B) :
    Calls Yba.prog 5 #[.slice a0 l0 c0, .slice a1 l1 c1] w fun e w' => e = .returned (.bool true) ∧ Below w.heap.size w w' := by
  have h : (l0 : Int) ≤ 1024 := by omega
  have hd : decide ((1024 : Int) < (l0 : Int)) = false := by simp; omega
  have hl1 : (l1 : Int) ≤ 9223372036854775807 := by unfold maxLen at hm1; omega
  obtain ⟨i0, hi, hz0, hz1, hz2⟩ := info_parts info115
  have HZ := hid hz
  have HBL := hid hB
  clear hz hB
  go_enter Yba.func5, Yba.ntmps5
  go_wp2_with (at_make; refine wpList_make_own _ rfl _ _ 93 rfl w.heap.size 115 i0 .nilIface 1 Yba.underlying93 hi hz0 hz1 .i64 .i64 (l0 : Int) l0 rfl rfl (by omega) (by rw [hz2]; omega) (by unfold maxLen; omega) (Nat.le_refl _) ?_; intro w1 hown1 hgrow1)
  have hb1 : Below w.heap.size w w1 := (Below.refl _ _).grown hgrow1 (Nat.le_refl _) (fun k hk => by cases hk)
  have HO1 := hid hown1
  have HB1 := hid hb1
  clear hown1 hgrow1 hb1
  go_loopw [5, 6, 7] (fun o t i wr => ∃ (k : Nat) (vals : List Value) (g cp : Nat), k ≤ l0 ∧ i = .int .i64 k ∧ o = .slice (some ⟨g, 0, none⟩) k cp ∧ t = .int .i64 (limTo (optOf zs l1 B) k) ∧
      wr.ownsRow w.heap.size 115 1 (.slice (some ⟨g, 0, none⟩) k cp) k vals ∧ (∀ j, j < k → OptAt wr (vals.getD j undef) (optOf zs l1 B j)) ∧ Below w.heap.size w wr)
    (fun _ _ i _ => l0 - (intOf i).toNat)
  case atStart => exact ⟨0, [], _, _, Nat.zero_le _, rfl, rfl, rfl, HO1.out, fun j hj => absurd hj (Nat.not_lt_zero _), HB1.out⟩
  case round =>
    clear HO1 HB1
    obtain ⟨k, vals, g, cp, hk, rfl, rfl, rfl, hown, hopt, hbel⟩ := hrel
    have hlen : vals.length = k := by have := hown.1; omega
    have hsz := hbel.size
    have HO := hid hown
    have HP := hid hopt
    have HB := hid hbel
    clear hown hopt hbel
    by_cases hlt : k < l0
    · obtain ⟨b0, off0, rfl, hb0, hc0⟩ := ints_at' HZ.out hlt
      have e0 : wr.cell? ⟨b0, off0 + k, none⟩ = some (.int .i64 (zs.getD k 0)) := (HB.out.cell (by exact hb0)).trans hc0
      have hlt' : (k : Int) < (l0 : Int) := by omega
      clear hc0
      by_cases hn : k < l1 ∧ B k = true
      · obtain ⟨hn1, hn2⟩ := hn
        have hX : optOf zs l1 B k = none := by simp [optOf, hn1, hn2]
        obtain ⟨b1, off1, rfl, hb1, hc1⟩ := bools_at HBL.out hn1
        have e1 : wr.cell? ⟨b1, off1 + k, none⟩ = some (.bool true) := by rw [(HB.out.cell (by exact hb1)).trans hc1, hn2]
        have hn1' : (k : Int) < (l1 : Int) := by omega
        clear hc1
        go_wp2_with (at_builtin; refine wpList_append_lies _ rfl _ _ 93 rfl w.heap.size 115 i0 .nilIface 1 16 Yba.underlying93 hi hz0 hz1 hz2 rfl (by decide) _ _ _ rfl (HO.out.alloc _) ⟨wr.heap.size, 0, none⟩ 1 1 [.iface 88 .nilFunc] rfl rfl ?c1 ?c2 (by decide) ?c3 ?c4 ?c5 (wr.heap.size + 1) (by simp) ?_)
        case c1 => exact cell_one_new _ _ _
        case c2 => simp [Value.oneCell']
        case c3 => unfold maxLen; omega
        case c4 => omega
        case c5 => simp; omega
        intro g' cp' w2 hown2 hgrow hat hg
        have R : w2.ownsRow w.heap.size 115 1 (.slice (some ⟨g', 0, none⟩) (k + 1) cp') (k + 1) (vals ++ [Value.iface 88 .nilFunc]) ∧
            (∀ j, j < k + 1 → OptAt w2 ((vals ++ [Value.iface 88 .nilFunc]).getD j undef) (optOf zs l1 B j)) ∧ Below w.heap.size w w2 := by
          refine ⟨hown2, fun j hj => ?_, (HB.out.alloc hsz _).grown hgrow (by simp; omega) (fun k hk => (HO.out.lt k hk).1)⟩
          rw [snoc_getD hlen]
          by_cases e : j = k
          · subst e; rw [if_pos rfl, hX]; exact rfl
          · rw [if_neg e]; exact (HP.out j (by omega)).alloc _ |>.grown (HO.out.alloc _) hgrow
        have HR := hid R
        clear R hown2 hgrow hat hg e0 e1
        go_wp2
        go_roundw
        case rel => exact ⟨k + 1, _, g', cp', by omega, by go_num, rfl, by rw [limTo_none hX], HR.out⟩
        case measure => simp [intOf]; omega
      · have hX : optOf zs l1 B k = some (zs.getD k 0) := by simp only [optOf, hn, if_false]
        have hbo : (∃ b1 off1, a1 = some ⟨b1, off1, none⟩ ∧ (k : Int) < (l1 : Int) ∧ wr.cell? ⟨b1, off1 + k, none⟩ = some (.bool false)) ∨ ¬ (k : Int) < (l1 : Int) := by
          by_cases hn1 : k < l1
          · obtain ⟨b1, off1, e, hb1, hc1⟩ := bools_at HBL.out hn1
            have hf : B k = false := by
              cases h : B k with
              | false => rfl
              | true => exact absurd ⟨hn1, h⟩ hn
            exact Or.inl ⟨b1, off1, e, by omega, by rw [(HB.out.cell (by exact hb1)).trans hc1, hf]⟩
          · exact Or.inr (by omega)
        clear hn
        generalize hzk : zs.getD k 0 = x at e0 hX
        have HZK := hid hzk
        clear hzk
        rcases hbo with ⟨b1, off1, rfl, hn1', e1⟩ | hn1'
        all_goals
          go_wp2_with (first
            | (go_at_call 19; refine (maxAdv _ _).mono ?_; rintro e w2 ⟨rfl, rfl⟩)
            | (at_builtin; refine wpList_append_lies _ rfl _ _ 93 rfl w.heap.size 115 i0 .nilIface 1 16 Yba.underlying93 hi hz0 hz1 hz2 rfl (by decide) _ _ _ rfl ((HO.out.alloc _).alloc _) ⟨wr.heap.size + 1, 0, none⟩ 1 1 [.iface 88 (.func (.func 30) #[] #[.pointer (some ⟨wr.heap.size, 0, none⟩)])] rfl rfl (new_one _ _ rfl) (by simp [Value.oneCell']) (by decide) (by unfold maxLen; omega) (by omega) (by simp; omega) (wr.heap.size + 1 + 1) (by simp) ?_))
          intro g' cp' w2 hown2 hgrow hat hg
          have R : w2.ownsRow w.heap.size 115 1 (.slice (some ⟨g', 0, none⟩) (k + 1) cp') (k + 1) (vals ++ [.iface 88 (.func (.func 30) #[] #[.pointer (some ⟨wr.heap.size, 0, none⟩)])]) ∧
              (∀ j, j < k + 1 → OptAt w2 ((vals ++ [Value.iface 88 (.func (.func 30) #[] #[.pointer (some ⟨wr.heap.size, 0, none⟩)])]).getD j undef) (optOf zs l1 B j)) ∧ Below w.heap.size w w2 := by
            refine ⟨hown2, fun j hj => ?_, ((HB.out.alloc hsz _).alloc (by simp; omega) _).grown hgrow (by simp; omega) (fun k hk => (HO.out.lt k hk).1)⟩
            rw [snoc_getD hlen]
            by_cases e : j = k
            · subst e
              rw [if_pos rfl, hX]
              exact OptAt.grown ⟨wr.heap.size, rfl, (heap_alloc_old _ _ (by simp)).trans (heap_alloc_new _ _)⟩ ((HO.out.alloc _).alloc _) hgrow
            · rw [if_neg e]; exact ((HP.out j (by omega)).alloc _).alloc _ |>.grown ((HO.out.alloc _).alloc _) hgrow
          have e2 : w2.cell? ⟨b0, off0 + k, none⟩ = some (.int .i64 x) := (R.2.2.cell (by exact hb0)).trans ((HB.out.cell (by exact hb0)).symm.trans e0)
          have HR := hid R
          clear R hown2 hgrow hat hg e0
          try clear e1
          go_wp2
          go_roundw
          case rel => exact ⟨k + 1, _, g', cp', by omega, by go_num, rfl, by rw [limTo_some hX], HR.out⟩
          case measure => simp [intOf]; omega
    · obtain rfl : k = l0 := by omega
      have hlt' : ¬ (k : Int) < (k : Int) := by omega
      have hkk : (limTo (optOf zs l1 B) k == limTo (optOf zs l1 B) k) = true := by simp
      have f3 := fun (w : World) => eql_nil_nilFunc (P := Yba.prog) w Yba.underlying81
      go_wp2_with fail
      refine (checkSet (optOf zs l1 B) (fun j => vals.getD j undef) g k cp _ hl (HO.out.lt g rfl).2 (fun i hi => ?_) HP.out).mono ?_
      · have := own_cell HO.out i hi
        rw [this, List.getD, List.getElem?_eq_getElem (by omega)]
        rfl
      rintro e w2 ⟨rfl, hb2⟩
      have HB2 : Hid (Below w.heap.size w w2) := HB.out.trans (hb2.mono HB.out.size)
      clear hb2
      go_wp2
      go_ret
      exact ⟨rfl, HB2.out.alloc HB2.out.size _⟩
end Go.Proofs.Ybulkcawy
