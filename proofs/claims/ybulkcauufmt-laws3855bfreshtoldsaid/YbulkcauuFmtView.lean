/-
  The contract of '(*detector).view' (function 7).
-/
import Derived.Test.YbulkcauuFmtFacts
import Derived.Deep.AppendLies
namespace Go.Proofs.YbulkcauuFmt
open Go.RowKit

/-- The processes 1..k that f marks, in order. -/
def K (f : Nat → Bool) : Nat → List Int
  | 0 => []
  | k + 1 => if f (k + 1) then K f k ++ [((k + 1 : Nat) : Int)] else K f k
theorem K_le (f : Nat → Bool) : ∀ k, (K f k).length ≤ k
  | 0 => Nat.le_refl _
  | k + 1 => by
    have := K_le f k
    simp only [K]
    split
    · simp; omega
    · omega
theorem K_yes {f : Nat → Bool} {k : Nat} (h : f (k + 1) = true) : K f (k + 1) = K f k ++ [((k + 1 : Nat) : Int)] := by simp [K, h]
theorem K_no {f : Nat → Bool} {k : Nat} (h : f (k + 1) = false) : K f (k + 1) = K f k := by simp [K, h]
theorem info30 : (Ybaf.prog.info? 30).map (fun i => (i.zero, i.size, i.bytes)) = some (some (.int .i64 0), 1, 8) := by kernel_rfl

theorem own_form {w : World} {base : Nat} {e : TypeId} {v : Value} {n : Nat} {xs : List Value} (h : w.ownsRow base e 1 v n xs) : ∃ ao cp, v = .slice ao n cp := by
  rcases h.2 with ⟨rfl, rfl⟩ | ⟨g, cap, cur, rfl, _⟩
  · exact ⟨none, 0, rfl⟩
  · exact ⟨_, _, rfl⟩

theorem old_kept {wr w1 : World} {base e n k : Nat} {v : Value} {xs : List Value} {o1 o2 : Obj} (hown : wr.ownsRow base e 1 v n xs) (hgrow : ((wr.alloc o1).alloc o2).grownBy w1 v.ownBlock) (hk : k < base) (hz : base ≤ wr.heap.size) :
    w1.heap[k]? = wr.heap[k]? := by
  have h1 := hgrow.block k (by simp; omega) (fun e => by have := (hown.lt k e.symm).1; omega)
  rw [h1, heap_alloc_old _ _ (by simp; omega), heap_alloc_old _ _ (by omega)]
theorem two_setCell {w : World} {b : Nat} {x y : Value} {t : TypeId} (h : w.heap[b]? = some (.cells #[x, y] t (0, 0))) (u : Value) :
    (w.setCell ⟨b, 1, none⟩ u).heap[b]? = some (.cells #[x, u] t (0, 0)) := by
  simp [World.setCell, Array.getElem?_modify, h]
theorem new_one {wr : World} {o : Obj} (x : Value) (t : TypeId) {H : Nat} (hH : wr.heap.size + 1 = H) (j : Nat) (u : Value) (h : [x][j]? = some u) :
    ((wr.alloc o).alloc (.cells #[x] t)).cell? ((⟨H, 0, none⟩ : Addr).add j) = some u := by
  have := cell_one_new (wr.alloc o) x t j u h
  simpa [hH] using this

set_option maxRecDepth 100000 in
set_option maxHeartbeats 2000000 in
theorem view_any (f : Nat → Bool) (b n sb cap : Nat) (ff tr : Int) (w : World) (hn : n ≤ 64) (hcap : n + 1 ≤ cap)
    (d0 : w.cell? ⟨b, 0, none⟩ = some (.int .i64 n)) (d1 : w.cell? ⟨b, 1, none⟩ = some (.int .i64 ff))
    (d6 : w.cell? ⟨b, 6, none⟩ = some (.int .i64 tr)) (d10 : w.cell? ⟨b, 10, none⟩ = some (.slice (some ⟨sb, 0, none⟩) (n + 1) cap))
    (hs : ∀ q, q ≤ n → w.cell? ⟨sb, q, none⟩ = some (.bool (f q))) :
    Calls Ybaf.prog 7 #[.pointer (some ⟨b, 0, none⟩)] w fun e w' => ∃ v, e = .returned (.agg #[.int .i64 tr, v]) ∧
      w'.ownsRow (w.heap.size + 2) 30 1 v (K f n).length ((K f n).map (Value.int .i64)) ∧ Below w.heap.size w w' := by
  obtain ⟨i0, hi, hz0, hz1, hz2⟩ := info_parts info30
  have hb : b < w.heap.size := World.block_lt_of_cell? _ _ d0
  have hsb : sb < w.heap.size := World.block_lt_of_cell? _ _ (hs 0 (Nat.zero_le _))
  have hb1 : b < w.heap.size + 1 := by omega
  have hb2 : b < w.heap.size + 1 + 1 := by omega
  have HSB : Hid (∀ q, q ≤ n → w.cell? ⟨sb, q, none⟩ = some (.bool (f q))) := hs
  clear hs
  go_enter Ybaf.func7, Ybaf.ntmps7
  go_wp2
  have hinit : ((w.alloc (.cells #[.int .i64 0, .slice none 0 0] 42)).alloc (.cells #[.int .i64 tr, .slice none 0 0] 42)).heap[w.heap.size]? = some (.cells #[.int .i64 0, .slice none 0 0] 42 (0, 0)) :=
    (heap_alloc_old _ _ (by simp)).trans (heap_alloc_new _ _)
  have hinit1 : ((w.alloc (.cells #[.int .i64 0, .slice none 0 0] 42)).alloc (.cells #[.int .i64 tr, .slice none 0 0] 42)).heap[w.heap.size + 1]? = some (.cells #[.int .i64 tr, .slice none 0 0] 42 (0, 0)) := by
    have := heap_alloc_new (w.alloc (.cells #[.int .i64 0, .slice none 0 0] 42)) (.cells #[.int .i64 tr, .slice none 0 0] 42)
    simpa using this
  have HI : Hid _ := hinit
  have HI1 : Hid _ := hinit1
  clear hinit hinit1
  go_loopw [4] (fun q wr => ∃ (k : Nat) (v : Value), k ≤ n ∧ q = .int .i64 ((k : Int) + 1) ∧ wr.heap[w.heap.size]? = some (.cells #[.int .i64 0, .slice none 0 0] 42 (0, 0)) ∧
      wr.heap[w.heap.size + 1]? = some (.cells #[.int .i64 tr, v] 42 (0, 0)) ∧ wr.ownsRow (w.heap.size + 2) 30 1 v (K f k).length ((K f k).map (Value.int .i64)) ∧ Below w.heap.size w wr)
    (fun q _ => n + 1 - (intOf q).toNat)
  case atStart => exact ⟨0, _, Nat.zero_le _, rfl, HI.out, HI1.out, World.ownsRow_nil _ _ _ _, ((Below.refl _ _).alloc (Nat.le_refl _) _).alloc (by simp) _⟩
  case round =>
    clear HI HI1
    obtain ⟨k, v, hk, rfl, hA, hB, hown, hbel⟩ := hrel
    obtain ⟨ao, cp, rfl⟩ := own_form hown
    obtain ⟨ca0, ca1, za0, za1⟩ := two_cells hA
    obtain ⟨cb0, cb1, zb0, zb1⟩ := two_cells hB
    have e0 : wr.cell? ⟨b, 0, none⟩ = some (.int .i64 n) := (hbel.cell hb).trans d0
    have e1 : wr.cell? ⟨b, 1, none⟩ = some (.int .i64 ff) := (hbel.cell hb).trans d1
    have e10 : wr.cell? ⟨b, 10, none⟩ = some (.slice (some ⟨sb, 0, none⟩) (n + 1) cap) := (hbel.cell hb).trans d10
    have hz : w.heap.size + 2 ≤ wr.heap.size := by
      have := (Array.getElem?_eq_some_iff.1 hB).1
      omega
    have HA : Hid _ := hA
    have HB : Hid _ := hB
    clear hA hB
    by_cases hlt : k < n
    · have es : wr.cell? ⟨sb, k + 1, none⟩ = some (.bool (f (k + 1))) := (hbel.cell hsb).trans (HSB.out (k + 1) (by omega))
      have hhas : hasB n ((k : Int) + 1) = true := by simp [hasB]; omega
      have l1 : b < wr.heap.size := by omega
      have l2 : sb < wr.heap.size := by omega
      have l3 : b < wr.heap.size + 1 := by omega
      have l4 : sb < wr.heap.size + 1 := by omega
      have l5 : w.heap.size + 1 < wr.heap.size := by omega
      have l6 : w.heap.size + 1 < wr.heap.size + 1 := by omega
      cases hf : f (k + 1)
      · rw [hf] at es
        go_wp2_with (go_at_call 13; refine (groupHas _ _ _ _).mono ?_; rintro e w' ⟨rfl, rfl⟩; rw [hhas])
        go_roundw
        case rel => exact ⟨k + 1, _, by omega, by go_num, (heap_alloc_old _ _ (by omega)).trans HA.out, (heap_alloc_old _ _ (by omega)).trans HB.out, by rw [K_no hf]; exact hown.alloc _, hbel.alloc (by omega) _⟩
        case measure => simp [intOf]; omega
      · rw [hf] at es
        have hkl := K_le f k
        go_wp2_with (first
          | (go_at_call 13; refine (groupHas _ _ _ _).mono ?_; rintro e w' ⟨rfl, rfl⟩; rw [hhas])
          | (at_builtin; refine wpList_append_lies _ rfl _ _ 40 rfl (w.heap.size + 2) 30 i0 (.int .i64 0) 1 8 Ybaf.underlying40 hi hz0 hz1 hz2 rfl (by decide) _ _ _ rfl ((hown.alloc _).alloc _) ⟨wr.heap.size + 1, 0, none⟩ 1 1 [.int .i64 ((k : Int) + 1)] rfl rfl ?c1 ?c2 (by decide) ?c3 ?c4 ?c5 (wr.heap.size + 1 + 1) (by simp) ?_))
        case c1 => exact new_one _ _ rfl
        case c2 => simp [Value.oneCell']
        case c3 => unfold maxLen; omega
        case c4 => omega
        case c5 => simp; omega
        intro g cap' w1 hown' hgrow hat hg
        have k0 : w1.heap[w.heap.size]? = some (.cells #[.int .i64 0, .slice none 0 0] 42 (0, 0)) := (old_kept hown hgrow (by omega) hz).trans HA.out
        have k1 : w1.heap[w.heap.size + 1]? = some (.cells #[.int .i64 tr, .slice ao (K f k).length cp] 42 (0, 0)) := (old_kept hown hgrow (by omega) hz).trans HB.out
        obtain ⟨q0, q1, y0, y1⟩ := two_cells k1
        have hbel1 : Below w.heap.size w w1 := ((hbel.alloc (by omega) _).alloc (by simp; omega) _).grown hgrow (by simp; omega) (fun j hj => by have := (hown.lt j hj).1; omega)
        have hK : (K f (k + 1)).length = (K f k).length + 1 := by rw [K_yes hf]; simp
        have hK' : (K f (k + 1)).map (Value.int .i64) = (K f k).map (Value.int .i64) ++ [.int .i64 ((k : Int) + 1)] := by rw [K_yes hf]; simp
        have R : (w1.setCell ⟨w.heap.size + 1, 1, none⟩ (.slice (some ⟨g, 0, none⟩) ((K f k).length + 1) cap')).heap[w.heap.size]? = some (.cells #[.int .i64 0, .slice none 0 0] 42 (0, 0)) ∧
            (w1.setCell ⟨w.heap.size + 1, 1, none⟩ (.slice (some ⟨g, 0, none⟩) ((K f k).length + 1) cap')).heap[w.heap.size + 1]? = some (.cells #[.int .i64 tr, .slice (some ⟨g, 0, none⟩) ((K f k).length + 1) cap'] 42 (0, 0)) ∧
            (w1.setCell ⟨w.heap.size + 1, 1, none⟩ (.slice (some ⟨g, 0, none⟩) ((K f k).length + 1) cap')).ownsRow (w.heap.size + 2) 30 1 (.slice (some ⟨g, 0, none⟩) ((K f k).length + 1) cap') (K f (k + 1)).length ((K f (k + 1)).map (Value.int .i64)) ∧
            Below w.heap.size w (w1.setCell ⟨w.heap.size + 1, 1, none⟩ (.slice (some ⟨g, 0, none⟩) ((K f k).length + 1) cap')) :=
          ⟨(Below.heap_setCell _ _ _ _ (by simp)).trans k0, two_setCell k1 _, by rw [hK, hK']; exact ownsRow_setCell_below hown' (by simp) _, hbel1.setCell (by simp) _⟩
        have HR : Hid _ := R
        clear R k0 k1 hbel1 hK hK' hown' hgrow hat hown e0 e1 e10 es ca0 ca1 cb0 cb1 za0 za1 zb0 zb1
        go_wp2
        go_roundw
        case rel => exact ⟨k + 1, _, by omega, by go_num, HR.out⟩
        case measure => simp [intOf]; omega
    · obtain rfl : k = n := by omega
      have hhas : hasB k ((k : Int) + 1) = false := by simp [hasB]; omega
      have l0 : w.heap.size < wr.heap.size := by omega
      have l1 : b < wr.heap.size := by omega
      have l5 : w.heap.size + 1 < wr.heap.size := by omega
      go_wp2_with (go_at_call 13; refine (groupHas _ _ _ _).mono ?_; rintro e w' ⟨rfl, rfl⟩; rw [hhas])
      refine bodyPost_ret (v := .agg #[.int .i64 tr, .slice ao (K f k).length cp]) (by simp [results, Ybaf.results7, go_sem, ca0, ca1, l0]) rfl ⟨_, rfl, ?_, ?_⟩
      · exact (ownsRow_setCell_below (ownsRow_setCell_below hown (by simp) _) (by simp) _).alloc _
      · exact ((hbel.setCell (Nat.le_refl _) _).setCell (Nat.le_refl _) _).alloc (by simp [World.setCell]; omega) _
end Go.Proofs.YbulkcauuFmt
