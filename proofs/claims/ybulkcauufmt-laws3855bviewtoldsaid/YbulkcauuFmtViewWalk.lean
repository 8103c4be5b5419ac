/-
  The walk of LawS3855BView (function 3).
-/
import Derived.Test.YbulkcauuFmtView
import Derived.Test.YbulkcauuFmtSlices
import Derived.Test.YbulkcauuFmtRow
namespace Go.Proofs.YbulkcauuFmt
open Go.RowKit Go.Extern.Stop Go.Stop Go.Extern

/-- What the walk is told of a slice of bools that came in: it is nil; or it leads to a row whose first cells are its elements. -/
def IsBools (w : World) (a : Option Addr) (len cap : Nat) (B : Nat → Bool) : Prop :=
  (a = none ∧ len = 0 ∧ cap = 0) ∨ ∃ x, a = some x ∧ len ≤ cap ∧ cap ≤ maxLen ∧ ∀ i, i < cap → w.cell? (x.add i) = some (.bool (B i))

/-- The marks: slot 0 true; slot q the (q-1)th of the given ones. -/
def mark (len : Nat) (B : Nat → Bool) : Nat → Bool
  | 0 => true
  | q + 1 => if q < len then B q else false
/-- The marks as the first loop has laid them behind k rounds. -/
def markTo (len : Nat) (B : Nat → Bool) (k q : Nat) : Bool := if q < k + 1 then mark len B q else false
theorem markTo_zero (len : Nat) (B : Nat → Bool) (q : Nat) : markTo len B 0 q = if q = 0 then true else false := by
  cases q with
  | zero => simp [markTo, mark]
  | succ q => simp [markTo]
theorem markTo_in {len : Nat} {B : Nat → Bool} {k : Nat} (h : k < len) (q : Nat) : markTo len B (k + 1) q = if q = k + 1 then B k else markTo len B k q := by
  by_cases e : q = k + 1
  · subst e; simp [markTo, mark, h]
  · by_cases h2 : q < k + 1
    · have : q < k + 1 + 1 := by omega
      simp [markTo, e, h2, this]
    · have : ¬ q < k + 1 + 1 := by omega
      simp [markTo, e, h2, this]
theorem markTo_out {len : Nat} {B : Nat → Bool} {k : Nat} (h : ¬ k < len) (q : Nat) : markTo len B (k + 1) q = markTo len B k q := by
  by_cases e : q = k + 1
  · subst e; simp [markTo, mark, h]
  · by_cases h2 : q < k + 1
    · have : q < k + 1 + 1 := by omega
      simp [markTo, h2, this]
    · have : ¬ q < k + 1 + 1 := by omega
      simp [markTo, h2, this]
theorem bools_at {w : World} {a : Option Addr} {len cap : Nat} {B : Nat → Bool} (h : IsBools w a len cap B) {k : Nat} (hk : k < len) :
    ∃ b off, a = some ⟨b, off, none⟩ ∧ b < w.heap.size ∧ w.cell? ⟨b, off + k, none⟩ = some (.bool (B k)) := by
  rcases h with ⟨_, h, _⟩ | ⟨x, rfl, hl, _, hc⟩
  · omega
  · obtain ⟨b, off, spot⟩ := x
    have h0 := hc k (by omega)
    have hspot : spot = none := by simpa [Addr.add] using World.cell?_spot (hc 0 (by omega))
    subst hspot
    rw [Addr.add_lit] at h0
    exact ⟨b, off, rfl, World.block_lt_of_cell? _ _ h0, h0⟩

theorem hid {p : Prop} (h : p) : Hid p := h
theorem view_long (a0 a1 : Int) (a2 : Option Addr) (len cap : Nat) (w : World) (hl : 1024 < len) :
    Calls Ybaf.prog 3 #[.int .u16 a0, .int .i64 a1, .slice a2 len cap] w fun e w' => e = .returned (.bool true) ∧ Below w.heap.size w w' := by
  have h : (1024 : Int) < (len : Int) := by omega
  go_enter Ybaf.func3, Ybaf.ntmps3
  go_wp2
  go_ret
  exact ⟨rfl, Below.refl _ _⟩

set_option maxRecDepth 100000 in
set_option maxHeartbeats 1000000 in
theorem view_nogroup (F : Interp) (a0 a1 : Int) (a2 : Option Addr) (len cap : Nat) (a : Addr) (s : ByteArray) (w : World) (hF : F.answers w.tape) (hl : len ≤ 1024) (h0 : 0 ≤ a0) (h1 : a0 ≤ 65535)
    (hn : 1 + a0 % 300 < 2 ∨ 64 < 1 + a0 % 300)
    (hg : w.cell? ⟨0, 0, none⟩ = some (.iface 65 (.pointer (some a)))) (hs : w.cell? a = some (.string s)) :
    Calls Ybaf.prog 3 #[.int .u16 a0, .int .i64 a1, .slice a2 len cap] w fun e w' => e = .returned (.bool true) ∧ Below w.heap.size w w' := by
  have h : (len : Int) ≤ 1024 := by omega
  have HN := hid hn
  have HG := hid hg
  have HS := hid hs
  clear hn hg hs
  go_enter Ybaf.func3, Ybaf.ntmps3
  go_wp2_with fail
  refine (group_err F _ a s _ (by exact hF) (by exact HN.out) (by exact HG.out) (by exact HS.out)).mono ?_
  rintro e w1 ⟨hb, rfl⟩
  have HB := hid hb
  clear hb
  go_wp2
  go_ret
  exact ⟨rfl, HB.out.alloc HB.out.size _⟩

set_option maxRecDepth 100000 in
set_option maxHeartbeats 2000000 in
theorem view_group (a0 a1 : Int) (a2 : Option Addr) (len cap : Nat) (B : Nat → Bool) (w : World) (hl : len ≤ 1024) (h0 : 0 ≤ a0) (h1 : a0 ≤ 65535)
    (n : Nat) (hn : 1 + a0 % 300 = n) (hn2 : 2 ≤ n) (hn64 : n ≤ 64) (hbs : IsBools w a2 len cap B) :
    Calls Ybaf.prog 3 #[.int .u16 a0, .int .i64 a1, .slice a2 len cap] w fun e w' => e = .returned (.bool true) ∧ Below w.heap.size w w' := by
  have h : (len : Int) ≤ 1024 := by omega
  have g2 : (2 : Int) ≤ n := by omega
  have g64 : (n : Int) ≤ 64 := by omega
  have hd : decide ((1024 : Int) < (len : Int)) = false := by simp; omega
  obtain ⟨i30, hi30, hz0, hz1, hz2⟩ := info_parts info30
  have hmk := fun w => run_make_row' (P := Ybaf.prog) 23 4 (.bool false) 1 Ybaf.underlying23 info4 rfl .i64 .i64 (n + 1) (by omega) (by omega) w
  rw [show ((n + 1 : Nat) : Int) = (n : Int) + 1 from by omega] at hmk
  have hm0 : (madeCells #[Value.bool false] (n + 1))[0]? = some (.bool false) := by
    rw [← Array.getElem?_toList, toList_madeCells_one]; simp
  have HBS : Hid (IsBools w a2 len cap B) := hbs
  clear hbs
  go_enter Ybaf.func3, Ybaf.ntmps3
  go_wp2_with fail
  refine (group_ok _ _ g2 g64).mono ?_
  rintro e w1 ⟨hb, rfl⟩
  have HB := hid hb
  clear hb
  go_wp2
  have hr0 : Row ((w1.alloc (.cells #[.int .i64 n, .int .i64 0] 25)).alloc (.cells ((madeCells #[Value.bool false] (n + 1)).setIfInBounds 0 (.bool true)) 4)) (w1.heap.size + 1) 4 (n + 1) (fun q => .bool (markTo len B 0 q)) := by
    have h1 := (Row.made (w1.alloc (.cells #[.int .i64 n, .int .i64 0] 25)) (.bool false) 4 (n + 1)).set 0 (.bool true)
    rw [World.setCell_alloc_at _ _ _ _ _ rfl] at h1
    refine Row.ext (by simpa using h1) fun q _ => ?_
    rw [markTo_zero]
    by_cases e : q = 0 <;> simp [e]
  have hg0 : ((w1.alloc (.cells #[.int .i64 n, .int .i64 0] 25)).alloc (.cells ((madeCells #[Value.bool false] (n + 1)).setIfInBounds 0 (.bool true)) 4)).heap[w1.heap.size]? = some (.cells #[.int .i64 n, .int .i64 0] 25 (0, 0)) :=
    (heap_alloc_old _ _ (by simp)).trans (heap_alloc_new _ _)
  have hb0 := (HB.out.alloc HB.out.size (.cells #[.int .i64 n, .int .i64 0] 25)).alloc (by have := HB.out.size; simp; omega) (.cells ((madeCells #[Value.bool false] (n + 1)).setIfInBounds 0 (.bool true)) 4)
  have HR := hid hr0
  have HG := hid hg0
  have HB0 := hid hb0
  clear hr0 hg0 hb0 hm0 hmk
  have hw1 : w.heap.size ≤ w1.heap.size := HB.out.size
  go_loopw [11] (fun q wr => ∃ k : Nat, k ≤ n ∧ q = .int .i64 ((k : Int) + 1) ∧ Row wr (w1.heap.size + 1) 4 (n + 1) (fun q => .bool (markTo len B k q)) ∧
      wr.heap[w1.heap.size]? = some (.cells #[.int .i64 n, .int .i64 0] 25 (0, 0)) ∧ Below w.heap.size w wr)
    (fun q _ => n + 1 - (intOf q).toNat)
  case atStart => exact ⟨0, Nat.zero_le _, rfl, HR.out, HG.out, HB0.out⟩
  case round =>
    clear HR HG HB0
    obtain ⟨k, hk, rfl, hrow, hgrp, hbel⟩ := hrel
    by_cases hlt : k < n
    · have hz := hrow.frozen (k + 1)
      have hc := hrow.cell (k + 1) (by omega)
      have HR := hid hrow
      have HG := hid hgrp
      have HBL := hid hbel
      clear hrow hgrp hbel
      by_cases hkl : k < len
      · obtain ⟨b, off, rfl, hblt, hbc⟩ := bools_at HBS.out hkl
        have hbc' := (HBL.out.cell (p := ⟨b, off + k, none⟩) hblt).trans hbc
        clear hbc
        have hkl' : (k : Int) < (len : Int) := by omega
        go_wp2
        go_roundw
        case rel =>
          refine ⟨k + 1, by omega, by go_num, Row.ext (HR.out.set (k + 1) _) (fun q _ => ?_), (Below.heap_setCell _ _ _ _ (by simp)).trans HG.out, HBL.out.setCell (by simp; omega) _⟩
          rw [markTo_in hkl]; by_cases e : q = k + 1 <;> simp [e]
        case measure => simp [intOf]; omega
      · have hkl' : ¬ (k : Int) < (len : Int) := by omega
        go_wp2
        go_roundw
        case rel => exact ⟨k + 1, by omega, by go_num, Row.ext HR.out (fun q _ => by rw [markTo_out hkl]), HG.out, HBL.out⟩
        case measure => simp [intOf]; omega
    · obtain rfl : k = n := by omega
      have HG := hid hgrp
      have HBL := hid hbel
      have HR := hid hrow
      clear hgrp hbel hrow
      have hdk : decide ((k : Int) + 1 ≤ (k : Int)) = false := by simp; omega
      go_wp2_with fail
      refine (clone_any (markTo len B k) (k + 1) (w1.heap.size + 1) _ _ (by omega) (by omega) (fun q hq => HR.out.cell q hq)).mono ?_
      rintro e w2 ⟨g, cap2, rfl, hown2, hb2⟩
      have hgr : w1.heap.size + 1 < wr.heap.size := HR.out.lt
      have hw2 : wr.heap.size ≤ w2.heap.size := hb2.size
      have hg2 : wr.heap.size ≤ g ∧ g < w2.heap.size := hown2.lt g rfl
      obtain ⟨hg2a, hg2b⟩ := hg2
      have hgrp2 := (hb2.block w1.heap.size (by omega)).trans HG.out
      have hrow2 := HR.out.below hb2 hgr
      have hbel2 := HBL.out.trans (hb2.mono HBL.out.size)
      obtain ⟨cg0, cg1, _, _⟩ := two_cells hgrp2
      have HR2 := hid hrow2
      have HO2 := hid hown2
      have HB2 := hid hbel2
      clear HR HG HBL hgrp2 hrow2 hown2 hbel2 hb2
      have ha1 : (a1 != a1) = false := by simp
      go_wp2_with fail
      refine (view_any (markTo len B k) w2.heap.size k (w1.heap.size + 1) (k + 1) 0 a1 _ hn64 (Nat.le_refl _) (by go_simp) (by go_simp) (by go_simp) (by go_simp) (fun q hq => (HR2.out.alloc _).cell q (by omega))).mono ?_
      rintro e w3 ⟨v, rfl, hown3, hb3⟩
      have hs3 : w2.heap.size + 1 ≤ w3.heap.size := by have := hb3.size; simpa using this
      have hb23 : Below w2.heap.size w2 w3 := ((Below.refl _ _).alloc (Nat.le_refl _) _).trans (hb3.mono (by simp))
      have cS : ∀ q, q < k + 1 → w3.cell? ⟨w1.heap.size + 1, q, none⟩ = some (.bool (markTo len B k q)) := fun q hq => (hb23.cell (by exact (by omega : w1.heap.size + 1 < w2.heap.size))).trans (HR2.out.cell q hq)
      have cB : ∀ q, q < k + 1 → w3.cell? ⟨g, q, none⟩ = some (.bool (markTo len B k q)) := fun q hq => (hb23.cell (by exact hg2b)).trans ((own_cell HO2.out q hq).trans (by simp [hq]))
      have CS := hid cS
      have CB := hid cB
      have HB3 := hid (HB2.out.trans (hb23.mono HB2.out.size))
      have HO3 := hid hown3
      clear hown3 hb3 hb23 cS cB HR2 HO2 HB2 cg0 cg1 hdk
      generalize markTo len B k = f at CS CB HO3 ⊢
      obtain ⟨ao, cp, rfl⟩ := own_form HO3.out
      have l1 : w1.heap.size + 1 < w3.heap.size := by omega
      have l2 : g < w3.heap.size := by omega
      clear hgr hw2 hg2a
      go_wp2_with fail
      go_loopw [15, 16] (fun t q wx => ∃ (j : Nat) (v : Value), j ≤ k ∧ q = .int .i64 ((j : Int) + 1) ∧ t = v ∧ wx.ownsRow (w3.heap.size + 1) 30 1 v (K f j).length ((K f j).map (Value.int .i64)) ∧
          Below (w3.heap.size + 1) (w3.alloc (.cells #[.int .i64 a1, .slice ao (K f k).length cp] 42)) wx)
        (fun _ q _ => k + 1 - (intOf q).toNat)
      case atStart => exact ⟨0, _, Nat.zero_le _, rfl, rfl, World.ownsRow_nil _ _ _ _, Below.refl _ _⟩
      case round =>
        obtain ⟨j, v, hj, rfl, rfl, hown, hbel⟩ := hrel
        obtain ⟨ao', cp', rfl⟩ := own_form hown
        have hsz : w3.heap.size + 1 ≤ wr.heap.size := by have := hbel.size; simpa using this
        by_cases hjk : j < k
        · have ec : wr.cell? ⟨g, j + 1, none⟩ = some (.bool (f (j + 1))) := (hbel.cell (by exact (by omega : g < w3.heap.size + 1))).trans (((Below.refl _ w3).alloc (Nat.le_refl _) _).cell (by exact l2) |>.trans (CB.out (j + 1) (by omega)))
          have hj' : (j : Int) < (k : Int) := by omega
          cases hf : f (j + 1)
          · rw [hf] at ec
            go_wp2
            go_roundw
            case rel => exact ⟨j + 1, _, by omega, by go_num, rfl, by rw [K_no hf]; exact hown, hbel⟩
            case measure => simp [intOf]; omega
          · rw [hf] at ec
            have hkl := K_le f j
            go_wp2_with (at_builtin; refine wpList_append_lies _ rfl _ _ 40 rfl (w3.heap.size + 1) 30 i30 (.int .i64 0) 1 8 Ybaf.underlying40 hi30 hz0 hz1 hz2 rfl (by decide) _ _ _ rfl (hown.alloc _) ⟨wr.heap.size, 0, none⟩ 1 1 [.int .i64 ((j : Int) + 1)] rfl rfl ?c1 ?c2 (by decide) ?c3 ?c4 ?c5 (wr.heap.size + 1) (by simp) ?_)
            case c1 => exact cell_one_new _ _ _
            case c2 => simp [Value.oneCell']
            case c3 => unfold maxLen; omega
            case c4 => omega
            case c5 => simp; omega
            intro g' cap' w5 hown' hgrow hat hg
            have hbel' := (hbel.alloc hsz _).grown hgrow (by simp; omega) (fun j hj => (hown.lt j hj).1)
            have hK : (K f (j + 1)).length = (K f j).length + 1 := by rw [K_yes hf]; simp
            have hK' : (K f (j + 1)).map (Value.int .i64) = (K f j).map (Value.int .i64) ++ [.int .i64 ((j : Int) + 1)] := by rw [K_yes hf]; simp
            have HN : Hid (w5.ownsRow (w3.heap.size + 1) 30 1 (.slice (some ⟨g', 0, none⟩) ((K f j).length + 1) cap') (K f (j + 1)).length ((K f (j + 1)).map (Value.int .i64))) := by rw [hK, hK']; exact hown'
            have HBN := hid hbel'
            clear hbel' hown' hgrow hat hown hbel hK hK' ec
            go_wp2
            go_roundw
            case rel => exact ⟨j + 1, _, by omega, by go_num, rfl, HN.out, HBN.out⟩
            case measure => simp [intOf]; omega
        · obtain rfl : j = k := by omega
          have HO := hid hown
          have HBX := hid hbel
          clear hown hbel
          have cv1 : wr.cell? ⟨w3.heap.size, 1, none⟩ = some (.slice ao (K f j).length cp) := (HBX.out.cell (by exact (by omega : w3.heap.size < w3.heap.size + 1))).trans (by go_simp)
          have hdj : decide ((j : Int) + 1 ≤ (j : Int)) = false := by simp; omega
          have hle : ((K f j).length : Int) ≤ 64 := by have := K_le f j; omega
          have hlen : (((K f j).length : Int) != ((K f j).length : Int)) = false := by simp
          go_wp2_with fail
          obtain ⟨wq, hwq⟩ : ∃ wq, wq = wr := ⟨_, rfl⟩
          subst hwq
          have hsz : w3.heap.size + 1 ≤ wq.heap.size := by have := HBX.out.size; simpa using this
          have HV := hid (own_below HO3.out (((Below.refl w3.heap.size w3).alloc (Nat.le_refl _) _).trans (HBX.out.mono (by omega))) (fun g hg => (HO3.out.lt g hg).2))
          clear HO3
          go_loopw [17] (fun i wr => ∃ (m d : Nat), m ≤ (K f j).length ∧ i = .int .i64 m ∧ wr = wq.drewN d) (fun i _ => (K f j).length - (intOf i).toNat)
          case atStart => exact ⟨0, 0, Nat.zero_le _, rfl, rfl⟩
          case round =>
            obtain ⟨m, d, hm, rfl, rfl⟩ := hrel
            by_cases hml : m < (K f j).length
            · rcases own_shape HO.out with ⟨_, h00⟩ | ⟨g1, cp1, hv1, _, hg1⟩
              · omega
              rcases own_shape HV.out with ⟨_, h00⟩ | ⟨g2, cp2, hv2, _, hg2⟩
              · omega
              injection hv1 with hv1 _ hc1
              injection hv2 with hv2 _ hc2
              subst hv1
              subst hv2
              subst hc1
              subst hc2
              have e1 := own_cell HO.out m hml
              have e2 := own_cell HV.out m hml
              rw [List.getElem?_map, List.getElem?_eq_getElem hml] at e1 e2
              simp only [Option.map_some] at e1 e2
              generalize (K f j)[m] = x at e1 e2
              have hx : (x != x) = false := by simp
              have hm0 : (0 : Int) ≤ (m : Int) := by omega
              have hm1 : (m : Int) < ((K f j).length : Int) := by omega
              go_wp2_with fail
              go_quiet (fail)
              go_wp2
              go_roundw
              case rel => exact ⟨m + 1, d + nq, by omega, by go_num, rfl⟩
              case measure => simp [intOf]; omega
            · have hdm : ¬ (m : Int) < ((K f j).length : Int) := by omega
              go_wp2_with fail
              refine (equal_same f (j + 1) (w1.heap.size + 1) _ g _ _ (by omega) (fun q hq => ?_) (fun q hq => ?_)).mono ?_
              · exact (HBX.out.cell (by exact (by omega : w1.heap.size + 1 < w3.heap.size + 1))).trans (((Below.refl _ w3).alloc (Nat.le_refl _) _).cell (by exact l1) |>.trans (CS.out q hq))
              · exact (HBX.out.cell (by exact (by omega : g < w3.heap.size + 1))).trans (((Below.refl _ w3).alloc (Nat.le_refl _) _).cell (by exact l2) |>.trans (CB.out q hq))
              rintro e w9 ⟨rfl, hb9⟩
              have HB9 : Hid (Below w.heap.size w w9) :=
                (below_drewN ((HB3.out.alloc HB3.out.size _).trans (HBX.out.mono (by have := HB3.out.size; omega))) d).trans (hb9.mono (by have := HB3.out.size; simp; omega))
              clear hb9
              go_wp2
              go_ret
              exact ⟨rfl, HB9.out⟩
end Go.Proofs.YbulkcauuFmt
