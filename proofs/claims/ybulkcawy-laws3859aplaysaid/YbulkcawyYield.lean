/-
  The law's yield: the closure that counts and logs the cores.
-/
import Derived.Test.YbulkcawyProc
namespace Go.Proofs.Ybulkcawy
open Go.RowKit
set_option linter.unusedSimpArgs false
set_option linter.unusedVariables false
set_option maxRecDepth 100000
set_option maxHeartbeats 2000000

theorem yieldC (L base : Nat) (xs : List Int) (g : Option Nat) (w : World) (hL : L < base) (hbase : base ≤ w.heap.size) (hlog : LogAt w base L xs g) (hlen : xs.length ≤ 900000) (p t tm y s Y S E : Nat) (hp : p ≤ 1000) (ht : t ≤ 1000) (htm : tm ≤ 1000) (hy : y ≤ 1000) (hs : s ≤ 1000)
    (hY : Row w Y 3 1 (fun _ => .int .i64 y)) (hYb : Y < base) (hYL : Y ≠ L) (hS : Row w S 3 1 (fun _ => .int .i64 s)) (hSb : S < base) (hSL : S ≠ L) (hSY : S ≠ Y) (m : Nat → Value) (hE : Row w E 40 3 m) (hm : m 1 = .int .i64 tm) (hEY : E ≠ Y) :
    Calls Yba.prog 14 #[.agg #[.int .i64 p, .int .i64 t, .slice (some ⟨E, 0, none⟩) 1 1], .pointer (some ⟨Y, 0, none⟩), .pointer (some ⟨L, 0, none⟩), .pointer (some ⟨S, 0, none⟩)] w fun e w' => e = .returned (.bool (decide (y + 1 ≠ s))) ∧ ∃ g', LogAt w' base L (xs ++ [-7, (p : Int), (t : Int), (tm : Int)]) g' ∧ NewG w g g' ∧ Row w' Y 3 1 (fun _ => .int .i64 ((y + 1 : Nat) : Int)) ∧ Only (fun b => LogS L g b ∨ b = Y) w w' := by
  have hlog' := hlog
  obtain ⟨v0, hrow, hown, hg0⟩ := hlog'
  subst hg0
  obtain ⟨i0, hi0, hz0, hz1, hz2⟩ := info_parts info3'
  have hoY : Only (fun b => b = Y) w (w.setCell ⟨Y, 0, none⟩ (.int .i64 ((y : Int) + 1))) := Only.setCell (S := fun b => b = Y) Only.refl (p := ⟨Y, 0, none⟩) (fun _ => rfl) _
  have hownY : (w.setCell ⟨Y, 0, none⟩ (.int .i64 ((y : Int) + 1))).ownsRow base 3 1 v0 xs.length (intsV xs) := own_of_block hown fun b hb => hoY.block b (own_block_lt hown hb).2 (fun e => by have := own_block_lt hown hb; omega)
  have hrowY : Row (w.setCell ⟨Y, 0, none⟩ (.int .i64 ((y : Int) + 1))) L 29 1 (fun _ => v0) := hrow.only hoY (fun e => hYL e.symm)
  have hYY : Row (w.setCell ⟨Y, 0, none⟩ (.int .i64 ((y : Int) + 1))) Y 3 1 (fun _ => .int .i64 ((y + 1 : Nat) : Int)) := (hY.set 0 _).ext fun q hq => by simp [show q = 0 by omega]
  have hSY' : Row (w.setCell ⟨Y, 0, none⟩ (.int .i64 ((y : Int) + 1))) S 3 1 (fun _ => .int .i64 s) := hS.only hoY hSY
  have HOY := hidP hoY
  have HOWNY := hidP hownY
  have HROWY := hidP hrowY
  have HYY := hidP hYY
  have HSY := hidP hSY'
  clear hoY hownY hrowY hYY hSY'
  have hLw := hrow.lt
  have hYw := hY.lt
  have cY := hY.cell 0 (by omega)
  have fY := hY.frozen 0
  have cE1 := hE.cell 1 (by omega)
  rw [hm] at cE1
  have HY := hidP hY
  have HE := hidP hE
  have HS := hidP hS
  have HLOG := hidP hlog
  have HROW := hidP hrow
  have HOWN := hidP hown
  have hEw := hE.lt
  have hSw := hS.lt
  have cL := hrow.cell 0 (by omega)
  have cS := hS.cell 0 (by omega)
  have n1 : w.heap.size ≠ Y := by omega
  have n2 : L ≠ Y := Ne.symm hYL
  have HYL := hidP hYL
  have HSL := hidP hSL
  clear hYL hSL
  clear hlog hrow hown hY hS hE
  refine calls_of_wp Yba.func14 rfl ?_
  simp only [Yba.ntmps14, List.size_toArray, List.length_cons, List.length_nil, Nat.reduceAdd, Nat.reduceSub, Array.replicate_succ, Array.replicate_zero, List.push_toArray, List.append_toArray, List.nil_append, List.cons_append]
  go_wp2_with (at_builtin; refine wpList_append_lies _ rfl _ _ 29 rfl base 3 i0 (.int .i64 0) 1 8 Yba.underlying29 hi0 hz0 hz1 hz2 rfl (by decide) v0 xs.length (intsV xs) rfl ?c1 ⟨w.heap.size + 1, 0, none⟩ 4 4 (intsV [-7, (p : Int), (t : Int), (tm : Int)]) rfl rfl ?c2 (by simp [intsV, Value.oneCell']) (by decide) (by show _ ≤ 9223372036854775807; omega) (by omega) ?c3 (w.heap.size + 2) ?c4 ?_)
  case c1 => exact (HOWNY.out.alloc _).alloc _
  case c2 =>
    intro j u hu
    have h := World.news_of_block (heap_alloc_new ((w.setCell ⟨Y, 0, none⟩ (.int .i64 ((y : Int) + 1))).alloc (.cells #[.int .i64 p, .int .i64 t, .slice (some ⟨E, 0, none⟩) 1 1] 76)) (.cells #[.int .i64 (-7), .int .i64 p, .int .i64 t, .int .i64 tm] 3)) j u hu
    have e : ((w.setCell ⟨Y, 0, none⟩ (.int .i64 ((y : Int) + 1))).alloc (.cells #[.int .i64 p, .int .i64 t, .slice (some ⟨E, 0, none⟩) 1 1] 76)).heap.size = w.heap.size + 1 := by simp [World.setCell]
    rw [e] at h
    exact h
  case c3 => simp [World.setCell]; omega
  case c4 => simp [World.setCell]
  intro gg cap w1 hown1 hgrow hat hlt
  have hgg : v0.ownBlock = some gg ∨ (w.setCell ⟨Y, 0, none⟩ (.int .i64 ((y : Int) + 1))).heap.size ≤ gg := by
    rcases hat with h | h
    · exact .inl h
    · exact .inr (by simp [World.setCell]; omega)
  obtain ⟨M1, M2, M3⟩ := LogAt.stored (ys := [-7, (p : Int), (t : Int), (tm : Int)]) HROWY.out HOWNY.out hL ((Only.refl.alloc _).alloc _) hown1 hgrow hgg
  have hr1 : Row w1 L 29 1 (fun _ => v0) := ((HROWY.out.alloc _).alloc _).grown hgrow (fun e => by have := own_block_lt HOWN.out e.symm; omega)
  have cL1 := hr1.cell 0 (by omega)
  have fL1 := hr1.frozen 0
  obtain ⟨w2, hw2⟩ : ∃ w2, w2 = w1.setCell ⟨L, 0, none⟩ (.slice (some ⟨gg, 0, none⟩) (xs.length + 4) cap) := ⟨_, rfl⟩
  have M1 : LogAt w2 base L (xs ++ [-7, (p : Int), (t : Int), (tm : Int)]) (some gg) := by rw [hw2]; exact M1
  have M3 : Only (LogS L v0.ownBlock) (w.setCell ⟨Y, 0, none⟩ (.int .i64 ((y : Int) + 1))) w2 := by rw [hw2]; exact M3
  have hYg : ∀ b, b < base → b ≠ L → ¬ LogS L v0.ownBlock b := fun b hb hbL => by
    rintro (h | h)
    · exact hbL h
    · have := HLOG.out.block_lt h
      omega
  have hY2 : Row w2 Y 3 1 (fun _ => .int .i64 ((y + 1 : Nat) : Int)) := HYY.out.only M3 (hYg Y hYb HYL.out)
  have hS2 : Row w2 S 3 1 (fun _ => .int .i64 s) := HSY.out.only M3 (hYg S hSb HSL.out)
  have cY2 : w2.cell? ⟨Y, 0, none⟩ = some (.int .i64 ((y : Int) + 1)) := hY2.cell 0 (by omega)
  have cS2 : w2.cell? ⟨S, 0, none⟩ = some (.int .i64 s) := hS2.cell 0 (by omega)
  have HY2 := hidP hY2
  have N1 := hidP M1
  have N2 := hidP M2
  have N3 := hidP M3
  clear M1 M2 M3 hown1 hgrow hat hlt hr1 HLOG hY2 hS2 hgg
  have hw2' := hw2.symm
  clear hw2
  go_wp2_with fail
  refine bodyPost_ret (v := .bool (decide (y + 1 ≠ s))) ?_ rfl ⟨rfl, some gg, N1.out, fun b hb => ?_, HY2.out, ?_⟩
  · simp [results, Yba.results14]
    by_cases e : y + 1 = s
    · have : (y : Int) + 1 = s := by omega
      simp [e, this]
    · have : (y : Int) + 1 ≠ s := by omega
      simp [e, this]
  · have := N2.out b hb
    simpa [World.setCell] using this
  · exact (HOY.out.mono (fun _ _ h => .inr h)).trans' N3.out (fun b _ h => .inl h)
end Go.Proofs.Ybulkcawy
