/-
  LawS3859APlay: what its loops share.
-/
import Derived.Test.YbulkcawySetF
namespace Go.Proofs.Ybulkcawy
open Go.RowKit
set_option linter.unusedSimpArgs false
set_option linter.unusedVariables false
set_option maxRecDepth 100000
set_option maxHeartbeats 4000000

/-- From block B on, the blocks of cells of one of the types ts. -/
def TS (B : Nat) (ts : List Nat) (w : World) (b : Nat) : Prop := B ≤ b ∧ ∃ cur t fz, w.heap[b]? = some (.cells cur t fz) ∧ t ∈ ts
def OnlyT (B : Nat) (ts : List Nat) (w w' : World) : Prop := Only (TS B ts w) w w'

section
variable {B : Nat} {ts ts' : List Nat} {w w' w'' : World}
theorem OnlyT.refl : OnlyT B ts w w := Only.refl
theorem OnlyT.trans (h : OnlyT B ts w w') (k : OnlyT B ts w' w'') : OnlyT B ts w w'' := by
  refine Only.trans' h k fun b hb hs => ?_
  by_cases e : TS B ts w b
  · exact e
  · have := h.block b hb e
    obtain ⟨h1, cur, t, fz, h2, h3⟩ := hs
    exact ⟨h1, cur, t, fz, this.symm.trans h2, h3⟩
theorem OnlyT.mono (h : OnlyT B ts w w') (hs : ∀ t ∈ ts, t ∈ ts') : OnlyT B ts' w w' :=
  Only.mono h fun b _ e => by
    obtain ⟨h1, cur, t, fz, h2, h3⟩ := e
    exact ⟨h1, cur, t, fz, h2, hs t h3⟩
theorem OnlyT.of_none (h : Only (fun _ => False) w w') : OnlyT B ts w w' := Only.mono h fun _ _ e => e.elim
theorem OnlyT.size (h : OnlyT B ts w w') : w.heap.size ≤ w'.heap.size := Only.size h
theorem OnlyT.one {t b n : Nat} {m : Nat → Value} (hr : Row w b t n m) (hB : B ≤ b) (ht : t ∈ ts) (h : Only (fun x => x = b) w w') : OnlyT B ts w w' :=
  Only.mono h fun x _ e => by
    subst e
    obtain ⟨cur, h1, _⟩ := hr
    exact ⟨hB, cur, t, (0, 0), h1, ht⟩
theorem OnlyT.own {e size n : Nat} {v : Value} {xs : List Value} (hr : w.ownsRow B e size v n xs) (ht : e ∈ ts) (h : Only (fun x => v.ownBlock = some x) w w') : OnlyT B ts w w' :=
  Only.mono h fun x _ hx => by
    rcases hr.2 with ⟨rfl, _⟩ | ⟨g, cap, cur, rfl, h1, h2, _⟩
    · simp [Value.ownBlock] at hx
    · simp [Value.ownBlock] at hx
      subst hx
      exact ⟨h1, cur, e, (0, 0), h2, ht⟩
theorem Row.onlyT {g t n : Nat} {m : Nat → Value} (h : Row w g t n m) (ho : OnlyT B ts w w') (ht : t ∉ ts) : Row w' g t n m := by
  refine h.only ho fun e => ?_
  obtain ⟨_, cur, t', fz, h1, h2⟩ := e
  obtain ⟨cur', h3, _⟩ := h
  rw [h3] at h1
  injection h1 with h1
  injection h1 with _ h1
  subst h1
  exact ht h2
theorem own_onlyT {base e size n : Nat} {v : Value} {xs : List Value} (h : w.ownsRow base e size v n xs) (ho : OnlyT B ts w w') (ht : e ∉ ts) : w'.ownsRow base e size v n xs := by
  refine own_of_block h fun g hg => ?_
  rcases h.2 with ⟨rfl, _⟩ | ⟨g', cap, cur, rfl, h1, h2, _⟩
  · simp [Value.ownBlock] at hg
  · simp [Value.ownBlock] at hg
    subst hg
    refine Only.block ho _ (Array.getElem?_eq_some_iff.1 h2).1 fun hs => ?_
    obtain ⟨_, cur', t', fz, h3, h4⟩ := hs
    rw [h2] at h3
    injection h3 with h3
    injection h3 with _ h3
    subst h3
    exact ht h4
theorem OnlyT.only {S : Nat → Prop} (h : OnlyT B ts w w') (hs : ∀ b, B ≤ b → S b) : Only S w w' := Only.mono h fun b _ e => hs b e.1
end

/-- A slice of bytes that came in: k-th byte f k. -/
def BytesAt (w : World) (B : Nat) (v : Value) (len : Nat) (f : Nat → Nat) : Prop :=
  (∀ k, f k ≤ 255) ∧ B ≤ w.heap.size ∧ ∃ a cap, v = .slice a len cap ∧ ∀ k, k < len → ∃ b off, a = some ⟨b, off, none⟩ ∧ b < B ∧ w.cell? ⟨b, off + k, none⟩ = some (.int .u8 (f k))
theorem BytesAt.only {w w' : World} {B : Nat} {v : Value} {len : Nat} {f : Nat → Nat} {S : Nat → Prop} (h : BytesAt w B v len f) (ho : Only S w w') (hS : ∀ b, S b → B ≤ b) : BytesAt w' B v len f := by
  obtain ⟨h0, hB, a, cap, h1, h2⟩ := h
  refine ⟨h0, Nat.le_trans hB ho.size, a, cap, h1, fun k hk => ?_⟩
  obtain ⟨b, off, e1, e2, e3⟩ := h2 k hk
  refine ⟨b, off, e1, e2, ?_⟩
  rw [cell_of_only ho (by omega) (fun e => by have := hS b e; omega)]
  exact e3
theorem BytesAt.onlyT {w w' : World} {B : Nat} {ts : List Nat} {v : Value} {len : Nat} {f : Nat → Nat} (h : BytesAt w B v len f) (ho : OnlyT B ts w w') : BytesAt w' B v len f :=
  BytesAt.only h ho fun b e => e.1
theorem BytesAt.at {w : World} {B : Nat} {v : Value} {len : Nat} {f : Nat → Nat} (h : BytesAt w B v len f) {k : Nat} (hk : k < len) : ∃ b off cap, v = .slice (some ⟨b, off, none⟩) len cap ∧ w.cell? ⟨b, off + k, none⟩ = some (.int .u8 (f k)) := by
  obtain ⟨_, _, a, cap, h1, h2⟩ := h
  obtain ⟨b, off, e1, _, e3⟩ := h2 k hk
  exact ⟨b, off, cap, by rw [h1, e1], e3⟩
theorem BytesAt.form {w : World} {B : Nat} {v : Value} {len : Nat} {f : Nat → Nat} (h : BytesAt w B v len f) : ∃ a cap, v = .slice a len cap := by
  obtain ⟨_, _, a, cap, h1, _⟩ := h
  exact ⟨a, cap, h1⟩

/-- The j-th bit of a byte, as the program asks for it. -/
def bitT (rm j : Nat) : Bool := Go.bits .and .u8 ((rm : Int) / 2 ^ j) 1 == 1
/-- The processes that a byte names. -/
def bitsL (rm k : Nat) : List Nat := (List.range k).flatMap fun j => if bitT rm j then [j + 1] else []
theorem bitsL_succ (rm k : Nat) : bitsL rm (k + 1) = bitsL rm k ++ (if bitT rm k then [k + 1] else []) := by
  simp [bitsL, List.range_succ, List.flatMap_append]
theorem bitsL_len (rm k : Nat) : (bitsL rm k).length ≤ k := by
  induction k with
  | zero => simp [bitsL]
  | succ k ih => rw [bitsL_succ, List.length_append]; split <;> simp <;> omega
theorem mem_bitsL (rm k i : Nat) : i ∈ bitsL rm k ↔ 1 ≤ i ∧ i ≤ k ∧ bitT rm (i - 1) = true := by
  unfold bitsL
  rw [List.mem_flatMap]
  constructor
  · rintro ⟨j, hj, hi⟩
    have := List.mem_range.1 hj
    split at hi
    · rename_i h
      simp at hi
      subst hi
      exact ⟨by omega, by omega, by simpa using h⟩
    · simp at hi
  · rintro ⟨h1, h2, h3⟩
    refine ⟨i - 1, List.mem_range.2 (by omega), ?_⟩
    rw [h3]
    simp
    omega

/-- A slice that grows by one element, in a frame's slot: what an append leaves. -/
theorem grown_own {B e size n m g cap : Nat} {w w1 : World} {v : Value} {xs ys : List Value} (hw : w.ownsRow B e size v n xs) {wa : World} (hwa : Only (fun _ => False) w wa) (h1 : w1.ownsRow B e size (.slice (some ⟨g, 0, none⟩) (n + m) cap) (n + m) (xs ++ ys)) (h2 : wa.grownBy w1 v.ownBlock) : Only (fun x => v.ownBlock = some x) w w1 :=
  Only.grown (hwa.mono (fun _ _ h => h.elim)) h2 (fun k hk _ => hk)

theorem f3_2 (B n rm : Nat) (hn : n ≤ 6) (hrm : rm ≤ 255) (w : World) (hBw : B ≤ w.heap.size) (T : Array Value) (Q : Exit → Act → World → Prop) (hT0 : T.size = 735) (t23 : T[23]?.getD undef = .int .i64 n) (t32 : T[32]?.getD undef = .int .u8 rm) (t33 : T[33]?.getD undef = .slice none 0 0) (t34 : T[34]?.getD undef = .int .i64 1)
    (hQ : ∀ T' w' tv, Keeps 81 734 [33, 34] T T' → T'[33]?.getD undef = tv → w'.ownsRow B 3 1 tv (bitsL rm n).length (natsV (bitsL rm n)) → Only (fun _ => False) w w' → Q .normal ⟨T', []⟩ w') : (blkOf Yba.f3 2).wp Yba.prog Q ⟨T, []⟩ w := by
  conv in (blkOf Yba.f3 2) => whnf
  refine wp_block ?_
  have HQ := hidP hQ
  clear hQ
  obtain ⟨i0, hi0, hz0, hz1, hz2⟩ := info_parts info3'
  obtain ⟨I, hI⟩ : ∃ I : Nat → Array Value → World → Prop, I = (fun k T2 wr => ∃ i, 1 ≤ i ∧ i + k = n + 1 ∧ Keeps 81 734 [33, 34] T T2 ∧ T2[34]?.getD undef = .int .i64 i ∧ ∃ tv, T2[33]?.getD undef = tv ∧ wr.ownsRow B 3 1 tv (bitsL rm (i - 1)).length (natsV (bitsL rm (i - 1))) ∧ (∀ b, tv.ownBlock = some b → w.heap.size ≤ b) ∧ Only (fun _ => False) w wr) := ⟨_, rfl⟩
  have HI := hidP hI
  clear hI
  refine wp_loop_n I ?_ n _ _ ?_
  · intro k T2 wr hIk
    rw [HI.out] at hIk
    obtain ⟨i, hi1, hik, hK, u34, tv, u33, hown, hnew, ho⟩ := hIk
    have hT : T2.size = 735 := hK.1.trans hT0
    have a23 := hK.at' hT 23 (by decide) t23 (by decide) (by decide)
    have a32 := hK.at' hT 32 (by decide) t32 (by decide) (by decide)
    have a33 : T2[33]'(by omega) = _ := at_of _ u33
    have a34 : T2[34]'(by omega) = _ := at_of _ u34
    have HK := hidP hK
    have HOWN := hidP hown
    have HNEW := hidP hnew
    have HO := hidP ho
    have hsz := ho.size
    clear hK u33 u34 hown hnew ho
    go_upto_if 121 with fail
    refine wp_cond_at (decide (i ≤ n)) (by simp [Act.eval, hT]) (fun h => ?_) (fun h => ?_)
    · have hin : i ≤ n := of_decide_eq_true h
      clear h
      refine gen_frame (fun U => U.size = 735 ∧ Keeps 81 734 [33, 34] T U ∧ U[33]?.getD undef = tv ∧ U[34]?.getD undef = .int .i64 i) ⟨by simp [hT], ?_, by simp [hT, a33], by simp [hT, a34]⟩ ?_
      · repeat (refine Keeps.put ?_ _ _ (by first | exact .inr ⟨by decide, by decide⟩ | exact .inl (by decide)))
        exact HK.out
      clear a23 a32 a33 a34 HK hT
      clear T2
      rintro T2 ⟨hT, hK, u33, u34⟩
      have a23 := hK.at' hT 23 (by decide) t23 (by decide) (by decide)
      have a32 := hK.at' hT 32 (by decide) t32 (by decide) (by decide)
      have a33 : T2[33]'(by omega) = _ := at_of _ u33
      have a34 : T2[34]'(by omega) = _ := at_of _ u34
      have HK := hidP hK
      clear hK u33 u34
      have hlen := bitsL_len rm (i - 1)
      have e1 : i - 1 + 1 = i := by omega
      have hbs : bitsL rm (i + 1 - 1) = bitsL rm (i - 1) ++ (if bitT rm (i - 1) then [i] else []) := by
        rw [show i + 1 - 1 = i - 1 + 1 by omega, bitsL_succ, e1]
      have HBS := hidP hbs
      clear hbs
      go_upto_if 130 with fail
      refine wp_cond_at (bitT rm (i - 1)) (by simp [Act.eval, hT, bitT]) (fun h => ?_) (fun h => ?_)
      · refine gen_frame (fun U => U.size = 735 ∧ Keeps 81 734 [33, 34] T U ∧ U[33]?.getD undef = tv ∧ U[34]?.getD undef = .int .i64 i) ⟨by simp [hT], ?_, by simp [hT, a33], by simp [hT, a34]⟩ ?_
        · repeat (refine Keeps.put ?_ _ _ (by first | exact .inr ⟨by decide, by decide⟩ | exact .inl (by decide)))
          exact HK.out
        clear a23 a32 a33 a34 HK hT
        clear T2
        rintro T2 ⟨hT, hK, u33, u34⟩
        have a33 : T2[33]'(by omega) = _ := at_of _ u33
        have a34 : T2[34]'(by omega) = _ := at_of _ u34
        have HK := hidP hK
        clear hK u33 u34
        go_wp2_with (at_builtin; refine wpList_append_lies _ rfl _ _ 29 rfl B 3 i0 (.int .i64 0) 1 8 Yba.underlying29 hi0 hz0 hz1 hz2 rfl (by decide) tv (bitsL rm (i - 1)).length (natsV (bitsL rm (i - 1))) (by simp [Act.eval, hT]) ?c1 ⟨wr.heap.size, 0, none⟩ 1 1 [.int .i64 i] (by simp [Act.eval, hT]) rfl ?c2 (by simp [Value.oneCell']) (by decide) (by show _ ≤ 9223372036854775807; omega) (by omega) ?c3 (wr.heap.size + 1) ?c4 ?_)
        case c1 => exact HOWN.out.alloc _
        case c2 => exact World.news_of_block (heap_alloc_new wr (.cells #[.int .i64 i] 3))
        case c3 => first | omega | (simp; omega)
        case c4 => simp
        intro gg cp w4 hown1 hgrow hat hlt
        have hog := grown_own HOWN.out (Only.refl.alloc _) hown1 hgrow
        have HOW1 := hidP hown1
        have HGG : Hid (w.heap.size ≤ gg) := hidP (by
          rcases hat with h | h
          · exact HNEW.out gg h
          · omega)
        have HO4 := hidP (HO.out.trans' hog (fun b hb e => by have := HNEW.out b e; omega))
        clear hown1 hgrow hat hlt hog
        go_wp2_with fail
        first | refine ⟨trivial, k - 1, by omega, ?_⟩ | refine ⟨k - 1, by omega, ?_⟩
        rw [HI.out]
        refine ⟨i + 1, by omega, by omega, ?_, by simp [hT], _, rfl, ?_, ?_, HO4.out⟩
        · repeat (refine Keeps.put ?_ _ _ (by first | exact .inr ⟨by decide, by decide⟩ | exact .inl (by decide)))
          exact HK.out
        · rw [HBS.out, h]
          have := HOW1.out
          simp only [if_true, List.length_append, List.length_cons, List.length_nil]
          rw [show natsV (bitsL rm (i - 1) ++ [i]) = natsV (bitsL rm (i - 1)) ++ [.int .i64 i] by simp [natsV]]
          simpa [hT] using this
        · intro b hb
          simp [hT, Value.ownBlock] at hb
          have := HGG.out
          omega
      · refine gen_frame (fun U => U.size = 735 ∧ Keeps 81 734 [33, 34] T U ∧ U[33]?.getD undef = tv ∧ U[34]?.getD undef = .int .i64 i) ⟨by simp [hT], ?_, by simp [hT, a33], by simp [hT, a34]⟩ ?_
        · repeat (refine Keeps.put ?_ _ _ (by first | exact .inr ⟨by decide, by decide⟩ | exact .inl (by decide)))
          exact HK.out
        clear a23 a32 a33 a34 HK hT
        clear T2
        rintro T2 ⟨hT, hK, u33, u34⟩
        have a33 : T2[33]'(by omega) = _ := at_of _ u33
        have a34 : T2[34]'(by omega) = _ := at_of _ u34
        have HK := hidP hK
        clear hK u33 u34
        go_wp2_with fail
        first | refine ⟨trivial, k - 1, by omega, ?_⟩ | refine ⟨k - 1, by omega, ?_⟩
        rw [HI.out]
        refine ⟨i + 1, by omega, by omega, ?_, by simp [hT], tv, by simp [hT, a33], ?_, HNEW.out, HO.out⟩
        · repeat (refine Keeps.put ?_ _ _ (by first | exact .inr ⟨by decide, by decide⟩ | exact .inl (by decide)))
          exact HK.out
        · rw [HBS.out, h]
          simpa using HOWN.out
    · have hin : i - 1 = n := by have := of_decide_eq_false h; omega
      clear h
      go_wp2_with fail
      have hown := HOWN.out
      rw [hin] at hown
      refine HQ.out _ _ tv ?_ (by simp [hT, a33]) hown HO.out
      repeat (refine Keeps.put ?_ _ _ (by first | exact .inr ⟨by decide, by decide⟩ | exact .inl (by decide)))
      exact HK.out
  · rw [HI.out]
    exact ⟨1, by omega, by omega, Keeps.refl, t34, .slice none 0 0, t33, ⟨rfl, .inl ⟨rfl, rfl⟩⟩, (fun b h => by simp [Value.ownBlock] at h), Only.refl⟩
end Go.Proofs.Ybulkcawy
