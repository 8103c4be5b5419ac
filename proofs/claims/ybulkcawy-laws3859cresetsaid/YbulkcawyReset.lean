/-
  The methods of inputTally on the road of LawS3859CReset: holdsAll (34), has (35), add (36), count (37), learn (33), reset (22).
-/
import Derived.Test.YbulkcawyTally
import Derived.Test.YbulkcawyBits
import Derived.BigQuiet
import Derived.Deep.QuietTactic
import Derived.BigRegion
namespace Go.Proofs.Ybulkcawy
open Go.RowKit
set_option linter.unusedVariables false

/-- A tally: block T; its four rows. -/
def Tal (w : World) (T n nw gz go gk gr : Nat) (Z O K R : Nat → Int) : Prop :=
  w.heap[T]? = some (.cells #[.int .i64 n, .slice (some ⟨gz, 0, none⟩) n n, .slice (some ⟨go, 0, none⟩) n n, .slice (some ⟨gk, 0, none⟩) nw nw, .slice (some ⟨gr, 0, none⟩) nw nw] 101 (0, 0)) ∧
  Row w gz 3 n (fun q => .int .i64 (Z q)) ∧ Row w go 3 n (fun q => .int .i64 (O q)) ∧ Row w gk 103 nw (fun q => .int .u64 (K q)) ∧ Row w gr 103 nw (fun q => .int .u64 (R q)) ∧ gz ≠ go ∧ gk ≠ gr

set_option maxHeartbeats 1000000 in
theorem has_none (g nw cap p : Nat) (w : World) (hp : 1 ≤ p) (hp' : p ≤ 700) (hi : (p - 1) / 64 < nw) (hc : w.cell? ⟨g, (p - 1) / 64, none⟩ = some (.int .u64 0)) :
    Calls Yba.prog 35 #[.slice (some ⟨g, 0, none⟩) nw cap, .int .i64 p] w fun e w' => e = .returned (.bool false) ∧ ∃ d, w' = w.drewN d := by
  obtain ⟨q, hq⟩ : ∃ q, (p - 1) / 64 = q := ⟨_, rfl⟩
  obtain ⟨r, hr⟩ : ∃ r, (p - 1) % 64 = r := ⟨_, rfl⟩
  rw [hq] at hi hc
  have hq1 : ((p : Int) - 1) / 64 = (q : Int) := by omega
  have hr1 : ((p : Int) - 1) % 64 = (r : Int) := by omega
  have hr64 : (r : Int) < 64 := by omega
  have hp1 : (1 : Int) ≤ p := by omega
  have hp2 : (p : Int) ≤ 700 := by omega
  have hi1 : (q : Int) < (nw : Int) := by omega
  have hi0 : (0 : Int) ≤ (q : Int) := by omega
  clear hq hr
  go_enter Yba.func35, Yba.ntmps35
  go_wp2_with fail
  go_quiet (fail)
  go_wp2
  go_ret
  refine ⟨?_, nq, rfl⟩
  have h0 := and_zero_u64 r
  unfold bitAt at h0
  rw [h0]
  rfl

set_option maxHeartbeats 1000000 in
theorem add_first (g nw cap p q r : Nat) (w : World) (hp : 1 ≤ p) (hp' : p ≤ 700) (hq : (p - 1) / 64 = q) (hr : (p - 1) % 64 = r) (hi : q < nw) (hc : w.cell? ⟨g, q, none⟩ = some (.int .u64 0)) (hz : w.frozen? ⟨g, q, none⟩ = false) :
    Calls Yba.prog 36 #[.slice (some ⟨g, 0, none⟩) nw cap, .int .i64 p] w fun e w' => e = .returned (.tuple #[]) ∧ w' = (w.setCell ⟨g, q, none⟩ (.int .u64 (bitAt r))).drew := by
  have hq1 : ((p : Int) - 1) / 64 = (q : Int) := by omega
  have hr1 : ((p : Int) - 1) % 64 = (r : Int) := by omega
  have hr64 : (r : Int) < 64 := by omega
  have hp1 : (1 : Int) ≤ p := by omega
  have hp2 : (p : Int) ≤ 700 := by omega
  have hi1 : (q : Int) < (nw : Int) := by omega
  have hi0 : (0 : Int) ≤ (q : Int) := by omega
  clear hq hr
  go_enter Yba.func36, Yba.ntmps36
  go_wp2_with fail
  go_region
  all_goals
    go_end0
    refine ⟨rfl, ?_⟩
    have h0 := or_zero_u64 r
    unfold bitAt at h0 ⊢
    rw [h0]

set_option maxHeartbeats 1000000 in
theorem holds_zero (T n nw gz go gk gr v : Nat) (Z O K R : Nat → Int) (w : World) (ht : Tal w T n nw gz go gk gr Z O K R) (hv : v < n) (hn : n ≤ 700) (h1 : Z v = 0) (h2 : O v = 0) :
    Calls Yba.prog 34 #[.pointer (some ⟨T, 0, none⟩), .int .i64 v] w fun e w' => e = .returned (.bool false) ∧ ∃ d, w' = w.drewN d := by
  obtain ⟨hb, rz, ro, rk, rr, _, _⟩ := ht
  have c0 : w.cell? ⟨T, 0, none⟩ = some (.int .i64 n) := by simp [World.cell?, hb]
  have c1 : w.cell? ⟨T, 1, none⟩ = some (.slice (some ⟨gz, 0, none⟩) n n) := by simp [World.cell?, hb]
  have c2 : w.cell? ⟨T, 2, none⟩ = some (.slice (some ⟨go, 0, none⟩) n n) := by simp [World.cell?, hb]
  have ez := rz.cell v hv
  have eo := ro.cell v hv
  simp only [h1] at ez
  simp only [h2] at eo
  have hi0 : (0 : Int) ≤ (v : Int) := by omega
  have hi1 : (v : Int) < (n : Int) := by omega
  have hn0 : ((0 : Int) == (n : Int)) = false := by simp; omega
  clear hb rz ro rk rr h1 h2
  go_enter Yba.func34, Yba.ntmps34
  go_wp2_with fail
  go_quiet (fail)
  go_wp2
  go_ret
  exact ⟨rfl, nq, rfl⟩

set_option maxHeartbeats 1000000 in
theorem count_zero (T n nw gz go gk gr v : Nat) (Z O K R : Nat → Int) (w : World) (ht : Tal w T n nw gz go gk gr Z O K R) (hv : v < n) (hn : n ≤ 700) (h1 : Z v = 0) :
    Calls Yba.prog 37 #[.pointer (some ⟨T, 0, none⟩), .int .i64 v, .bool true] w fun e w' => e = .returned (.tuple #[]) ∧ w' = w.setCell ⟨gz, v, none⟩ (.int .i64 1) := by
  obtain ⟨hb, rz, ro, rk, rr, _, _⟩ := ht
  have c1 : w.cell? ⟨T, 1, none⟩ = some (.slice (some ⟨gz, 0, none⟩) n n) := by simp [World.cell?, hb]
  have ez := rz.cell v hv
  have zz := rz.frozen v
  simp only [h1] at ez
  have hi0 : (0 : Int) ≤ (v : Int) := by omega
  have hi1 : (v : Int) < (n : Int) := by omega
  clear hb rz ro rk rr h1
  go_enter Yba.func37, Yba.ntmps37
  go_wp2
  go_end0
  exact ⟨rfl, rfl⟩
set_option maxHeartbeats 1000000 in
theorem count_one (T n nw gz go gk gr v : Nat) (Z O K R : Nat → Int) (w : World) (ht : Tal w T n nw gz go gk gr Z O K R) (hv : v < n) (hn : n ≤ 700) (h1 : O v = 0) :
    Calls Yba.prog 37 #[.pointer (some ⟨T, 0, none⟩), .int .i64 v, .bool false] w fun e w' => e = .returned (.tuple #[]) ∧ w' = w.setCell ⟨go, v, none⟩ (.int .i64 1) := by
  obtain ⟨hb, rz, ro, rk, rr, _, _⟩ := ht
  have c1 : w.cell? ⟨T, 2, none⟩ = some (.slice (some ⟨go, 0, none⟩) n n) := by simp [World.cell?, hb]
  have ez := ro.cell v hv
  have zz := ro.frozen v
  simp only [h1] at ez
  have hi0 : (0 : Int) ≤ (v : Int) := by omega
  have hi1 : (v : Int) < (n : Int) := by omega
  clear hb rz ro rk rr h1
  go_enter Yba.func37, Yba.ntmps37
  go_wp2
  go_end0
  exact ⟨rfl, rfl⟩

section
variable {w : World} {T n nw gz go gk gr : Nat} {Z O K R : Nat → Int}
theorem Tal.nes (h : Tal w T n nw gz go gk gr Z O K R) : gz ≠ T ∧ go ≠ T ∧ gk ≠ T ∧ gr ≠ T ∧ gz ≠ gk ∧ gz ≠ gr ∧ go ≠ gk ∧ go ≠ gr := by
  obtain ⟨hb, ⟨c1, e1, _⟩, ⟨c2, e2, _⟩, ⟨c3, e3, _⟩, ⟨c4, e4, _⟩, _, _⟩ := h
  refine ⟨?_, ?_, ?_, ?_, ?_, ?_, ?_, ?_⟩ <;> rintro rfl <;> simp_all
theorem Tal.drew (h : Tal w T n nw gz go gk gr Z O K R) : Tal w.drew T n nw gz go gk gr Z O K R := h
theorem Tal.drewN (h : Tal w T n nw gz go gk gr Z O K R) (d : Nat) : Tal (w.drewN d) T n nw gz go gk gr Z O K R := h
theorem Tal.setZ (h : Tal w T n nw gz go gk gr Z O K R) (v : Nat) (x : Int) : Tal (w.setCell ⟨gz, v, none⟩ (.int .i64 x)) T n nw gz go gk gr (fun i => if i = v then x else Z i) O K R := by
  obtain ⟨n1, n2, n3, n4, n5, n6, n7, n8⟩ := h.nes
  obtain ⟨hb, rz, ro, rk, rr, d1, d2⟩ := h
  exact ⟨(Below.heap_setCell _ _ _ _ (Ne.symm n1)).trans hb, (rz.set v _).ext (fun q _ => by by_cases e : q = v <;> simp [e]), ro.far _ _ (Ne.symm d1), rk.far _ _ (Ne.symm n5), rr.far _ _ (Ne.symm n6), d1, d2⟩
theorem Tal.setO (h : Tal w T n nw gz go gk gr Z O K R) (v : Nat) (x : Int) : Tal (w.setCell ⟨go, v, none⟩ (.int .i64 x)) T n nw gz go gk gr Z (fun i => if i = v then x else O i) K R := by
  obtain ⟨n1, n2, n3, n4, n5, n6, n7, n8⟩ := h.nes
  obtain ⟨hb, rz, ro, rk, rr, d1, d2⟩ := h
  exact ⟨(Below.heap_setCell _ _ _ _ (Ne.symm n2)).trans hb, rz.far _ _ d1, (ro.set v _).ext (fun q _ => by by_cases e : q = v <;> simp [e]), rk.far _ _ (Ne.symm n7), rr.far _ _ (Ne.symm n8), d1, d2⟩
theorem Tal.setK (h : Tal w T n nw gz go gk gr Z O K R) (v : Nat) (x : Int) : Tal (w.setCell ⟨gk, v, none⟩ (.int .u64 x)) T n nw gz go gk gr Z O (fun i => if i = v then x else K i) R := by
  obtain ⟨n1, n2, n3, n4, n5, n6, n7, n8⟩ := h.nes
  obtain ⟨hb, rz, ro, rk, rr, d1, d2⟩ := h
  exact ⟨(Below.heap_setCell _ _ _ _ (Ne.symm n3)).trans hb, rz.far _ _ n5, ro.far _ _ n7, (rk.set v _).ext (fun q _ => by by_cases e : q = v <;> simp [e]), rr.far _ _ (Ne.symm d2), d1, d2⟩
theorem Tal.setR (h : Tal w T n nw gz go gk gr Z O K R) (v : Nat) (x : Int) : Tal (w.setCell ⟨gr, v, none⟩ (.int .u64 x)) T n nw gz go gk gr Z O K (fun i => if i = v then x else R i) := by
  obtain ⟨n1, n2, n3, n4, n5, n6, n7, n8⟩ := h.nes
  obtain ⟨hb, rz, ro, rk, rr, d1, d2⟩ := h
  exact ⟨(Below.heap_setCell _ _ _ _ (Ne.symm n4)).trans hb, rz.far _ _ n6, ro.far _ _ n8, rk.far _ _ d2, (rr.set v _).ext (fun q _ => by by_cases e : q = v <;> simp [e]), d1, d2⟩
theorem Tal.cells (h : Tal w T n nw gz go gk gr Z O K R) : w.cell? ⟨T, 0, none⟩ = some (.int .i64 n) ∧ w.cell? ⟨T, 1, none⟩ = some (.slice (some ⟨gz, 0, none⟩) n n) ∧ w.cell? ⟨T, 2, none⟩ = some (.slice (some ⟨go, 0, none⟩) n n) ∧
    w.cell? ⟨T, 3, none⟩ = some (.slice (some ⟨gk, 0, none⟩) nw nw) ∧ w.cell? ⟨T, 4, none⟩ = some (.slice (some ⟨gr, 0, none⟩) nw nw) := by
  simp [World.cell?, h.1]
end

set_option maxHeartbeats 1000000 in
theorem learn_zero (B T n nw gz go gk gr p q r : Nat) (w : World) (ht : Tal w T n nw gz go gk gr (fun _ => 0) (fun _ => 0) (fun _ => 0) (fun _ => 0)) (hp : 1 ≤ p) (hp' : p ≤ n) (hn : n ≤ 700)
    (hq : (p - 1) / 64 = q) (hr : (p - 1) % 64 = r) (hi : q < nw) (b1 : B ≤ gz) (b2 : B ≤ go) (b3 : B ≤ gk) (b4 : B ≤ gr) :
    Calls Yba.prog 33 #[.pointer (some ⟨T, 0, none⟩), .int .i64 ((p : Int) - 1), .int .i64 p, .bool true] w fun e w' => e = .returned (.tuple #[]) ∧
      Tal w' T n nw gz go gk gr (fun i => if i = p - 1 then 1 else 0) (fun _ => 0) (fun i => if i = q then bitAt r else 0) (fun i => if i = q then bitAt r else 0) ∧ Below B w w' := by
  obtain ⟨v, hv⟩ : ∃ v, p - 1 = v := ⟨_, rfl⟩
  have hv1 : (p : Int) - 1 = (v : Int) := by omega
  rw [hv1, hv]
  have hv2 : v < n := by omega
  obtain ⟨c0, c1, c2, c3, c4⟩ := ht.cells
  have HT := hidT ht
  have HQ := hidT hq
  have HRR := hidT hr
  clear ht hv hv1 hq hr
  go_enter Yba.func33, Yba.ntmps33
  go_wp2_with fail
  refine (holds_zero T n nw gz go gk gr v _ _ _ _ _ HT.out hv2 hn rfl rfl).mono ?_
  rintro e w1 ⟨rfl, d, rfl⟩
  go_wp2_with fail
  refine (has_none gk nw nw p _ hp (by omega) (by rw [HQ.out]; exact hi) (by rw [HQ.out]; exact (HT.out.2.2.2.1.cell q hi))).mono ?_
  rintro e w2 ⟨rfl, d2, rfl⟩
  go_wp2_with fail
  refine (add_first gk nw nw p q r _ hp (by omega) HQ.out HRR.out hi (by exact HT.out.2.2.2.1.cell q hi) (by exact HT.out.2.2.2.1.frozen q)).mono ?_
  rintro e w3 ⟨rfl, rfl⟩
  have h3 := ((HT.out.drewN (d + d2)).setK q (bitAt r)).drew
  have HB3 : Hid (Below B w ((w.drewN (d + d2)).setCell ⟨gk, q, none⟩ (.int .u64 (bitAt r))).drew) := ((below_drewN (Below.refl _ _) (d + d2)).setCell (by exact b3) _).drew
  generalize ((w.drewN (d + d2)).setCell ⟨gk, q, none⟩ (.int .u64 (bitAt r))).drew = w3 at h3 HB3 ⊢
  obtain ⟨c0', c1', c2', c3', c4'⟩ := h3.cells
  have HT3 := hidT h3
  clear h3 c0 c1 c2 c3 c4
  go_wp2_with fail
  refine (add_first gr nw nw p q r _ hp (by omega) HQ.out HRR.out hi (HT3.out.2.2.2.2.1.cell q hi) (HT3.out.2.2.2.2.1.frozen q)).mono ?_
  rintro e w4 ⟨rfl, rfl⟩
  have h4 := (HT3.out.setR q (bitAt r)).drew
  have HB4 : Hid (Below B w (w3.setCell ⟨gr, q, none⟩ (.int .u64 (bitAt r))).drew) := (HB3.out.setCell (by exact b4) _).drew
  generalize (w3.setCell ⟨gr, q, none⟩ (.int .u64 (bitAt r))).drew = w4 at h4 HB4 ⊢
  have HT4 := hidT h4
  clear h4 c0' c1' c2' c3' c4'
  go_wp2_with fail
  refine (count_zero T n nw gz go gk gr v _ _ _ _ _ HT4.out hv2 hn rfl).mono ?_
  rintro e w5 ⟨rfl, rfl⟩
  go_wp2
  go_end0
  exact ⟨rfl, HT4.out.setZ v 1, HB4.out.setCell (by exact b1) _⟩

set_option maxHeartbeats 1000000 in
theorem learn_one (B T n nw gz go gk gr p q r : Nat) (w : World) (ht : Tal w T n nw gz go gk gr (fun _ => 0) (fun _ => 0) (fun _ => 0) (fun _ => 0)) (hp : 1 ≤ p) (hp' : p ≤ n) (hn : n ≤ 700)
    (hq : (p - 1) / 64 = q) (hr : (p - 1) % 64 = r) (hi : q < nw) (b1 : B ≤ gz) (b2 : B ≤ go) (b3 : B ≤ gk) (b4 : B ≤ gr) :
    Calls Yba.prog 33 #[.pointer (some ⟨T, 0, none⟩), .int .i64 ((p : Int) - 1), .int .i64 p, .bool false] w fun e w' => e = .returned (.tuple #[]) ∧
      Tal w' T n nw gz go gk gr (fun _ => 0) (fun i => if i = p - 1 then 1 else 0) (fun i => if i = q then bitAt r else 0) (fun _ => 0) ∧ Below B w w' := by
  obtain ⟨v, hv⟩ : ∃ v, p - 1 = v := ⟨_, rfl⟩
  have hv1 : (p : Int) - 1 = (v : Int) := by omega
  rw [hv1, hv]
  have hv2 : v < n := by omega
  obtain ⟨c0, c1, c2, c3, c4⟩ := ht.cells
  have HT := hidT ht
  have HQ := hidT hq
  have HRR := hidT hr
  clear ht hv hv1 hq hr
  go_enter Yba.func33, Yba.ntmps33
  go_wp2_with fail
  refine (holds_zero T n nw gz go gk gr v _ _ _ _ _ HT.out hv2 hn rfl rfl).mono ?_
  rintro e w1 ⟨rfl, d, rfl⟩
  go_wp2_with fail
  refine (has_none gk nw nw p _ hp (by omega) (by rw [HQ.out]; exact hi) (by rw [HQ.out]; exact (HT.out.2.2.2.1.cell q hi))).mono ?_
  rintro e w2 ⟨rfl, d2, rfl⟩
  go_wp2_with fail
  refine (add_first gk nw nw p q r _ hp (by omega) HQ.out HRR.out hi (by exact HT.out.2.2.2.1.cell q hi) (by exact HT.out.2.2.2.1.frozen q)).mono ?_
  rintro e w3 ⟨rfl, rfl⟩
  have h3 := ((HT.out.drewN (d + d2)).setK q (bitAt r)).drew
  have HB3 : Hid (Below B w ((w.drewN (d + d2)).setCell ⟨gk, q, none⟩ (.int .u64 (bitAt r))).drew) := ((below_drewN (Below.refl _ _) (d + d2)).setCell (by exact b3) _).drew
  generalize ((w.drewN (d + d2)).setCell ⟨gk, q, none⟩ (.int .u64 (bitAt r))).drew = w3 at h3 HB3 ⊢
  have HT3 := hidT h3
  clear h3 c0 c1 c2 c3 c4
  go_wp2_with fail
  refine (count_one T n nw gz go gk gr v _ _ _ _ _ HT3.out hv2 hn rfl).mono ?_
  rintro e w5 ⟨rfl, rfl⟩
  go_wp2
  go_end0
  exact ⟨rfl, HT3.out.setO v 1, HB3.out.setCell (by exact b2) _⟩

section
variable {w : World} {b : Nat}
theorem setCells_far (k : Nat) (hk : k ≠ b) : ∀ (cs : List Value) (o : Nat) (w : World), (w.setCells b o cs).heap[k]? = w.heap[k]?
  | [], _, _ => rfl
  | c :: cs, o, w => (setCells_far k hk cs (o + 1) _).trans (Below.heap_setCell _ _ _ _ hk)
theorem setCells_below {B : Nat} {a : World} (hB : B ≤ b) : ∀ (cs : List Value) (o : Nat) (w : World), Below B a w → Below B a (w.setCells b o cs)
  | [], _, _, h => h
  | c :: cs, o, w, h => setCells_below hB cs (o + 1) _ (h.setCell (by exact hB) _)
theorem setCells_row {t : TypeId} {n : Nat} (z : Value) : ∀ (k o : Nat) (w : World) (m : Nat → Value), Row w b t n m → Row (w.setCells b o (List.replicate k z)) b t n (fun q => if o ≤ q ∧ q < o + k then z else m q)
  | 0, o, w, m, h => h.ext fun q _ => by rw [if_neg (by omega)]
  | k + 1, o, w, m, h => by
    have := setCells_row z k (o + 1) _ _ (h.set o z)
    refine Row.ext this fun q _ => ?_
    by_cases e : q = o
    · subst e; rw [if_neg (by omega), if_pos rfl, if_pos (by omega)]
    · by_cases e2 : o + 1 ≤ q ∧ q < o + 1 + k
      · rw [if_pos e2, if_pos (by omega)]
      · rw [if_neg e2, if_neg e, if_neg (by omega)]
end
theorem zero3 (w : World) : (zeroValue 3).run Yba.prog w = .ok (.int .i64 0) w := by kernel_rfl
theorem zero103 (w : World) : (zeroValue 103).run Yba.prog w = .ok (.int .u64 0) w := by kernel_rfl
theorem clear3 {g n : Nat} {m : Nat → Value} (w : World) (ty : TypeId) (hr : Row w g 3 n m) (hn : 0 < n) :
    (Builtin.clear_ #[29] ty #[.slice (some ⟨g, 0, none⟩) n n]).run Yba.prog w = .ok (.tuple #[]) (w.setCells g 0 (List.replicate n (.int .i64 0))) :=
  Lib.run_clear_slice w 29 3 ty (.int .i64 0) Yba.underlying29 zero3 rfl rfl g 0 n n hn (fun j hj => by rw [Nat.zero_add, hr.cell j hj]; rfl) (fun j _ => hr.frozen _)
theorem clear103 {g n : Nat} {m : Nat → Value} (w : World) (ty : TypeId) (hr : Row w g 103 n m) (hn : 0 < n) :
    (Builtin.clear_ #[99] ty #[.slice (some ⟨g, 0, none⟩) n n]).run Yba.prog w = .ok (.tuple #[]) (w.setCells g 0 (List.replicate n (.int .u64 0))) :=
  Lib.run_clear_slice w 99 103 ty (.int .u64 0) Yba.underlying99 zero103 rfl rfl g 0 n n hn (fun j hj => by rw [Nat.zero_add, hr.cell j hj]; rfl) (fun j _ => hr.frozen _)

section
variable {w : World} {T n nw gz go gk gr : Nat} {Z O K R : Nat → Int}
theorem Tal.clearZ (h : Tal w T n nw gz go gk gr Z O K R) (hn : 0 < n) : ∃ w1, (∀ ty, (Builtin.clear_ #[29] ty #[.slice (some ⟨gz, 0, none⟩) n n]).run Yba.prog w = .ok (.tuple #[]) w1) ∧ Tal w1 T n nw gz go gk gr (fun _ => 0) O K R ∧ ∀ B, B ≤ gz → Below B w w1 := by
  obtain ⟨n1, n2, n3, n4, n5, n6, n7, n8⟩ := h.nes
  obtain ⟨hb, rz, ro, rk, rr, d1, d2⟩ := h
  refine ⟨_, fun ty => clear3 w ty rz hn, ⟨(setCells_far _ (Ne.symm n1) _ _ _).trans hb, (setCells_row _ n 0 w _ rz).ext (fun q hq => by rw [if_pos (by omega)]), ro.of_block (setCells_far _ (Ne.symm d1) _ _ _), rk.of_block (setCells_far _ (Ne.symm n5) _ _ _), rr.of_block (setCells_far _ (Ne.symm n6) _ _ _), d1, d2⟩, fun B hB => setCells_below hB _ _ _ (Below.refl _ _)⟩
theorem Tal.clearO (h : Tal w T n nw gz go gk gr Z O K R) (hn : 0 < n) : ∃ w1, (∀ ty, (Builtin.clear_ #[29] ty #[.slice (some ⟨go, 0, none⟩) n n]).run Yba.prog w = .ok (.tuple #[]) w1) ∧ Tal w1 T n nw gz go gk gr Z (fun _ => 0) K R ∧ ∀ B, B ≤ go → Below B w w1 := by
  obtain ⟨n1, n2, n3, n4, n5, n6, n7, n8⟩ := h.nes
  obtain ⟨hb, rz, ro, rk, rr, d1, d2⟩ := h
  refine ⟨_, fun ty => clear3 w ty ro hn, ⟨(setCells_far _ (Ne.symm n2) _ _ _).trans hb, rz.of_block (setCells_far _ d1 _ _ _), (setCells_row _ n 0 w _ ro).ext (fun q hq => by rw [if_pos (by omega)]), rk.of_block (setCells_far _ (Ne.symm n7) _ _ _), rr.of_block (setCells_far _ (Ne.symm n8) _ _ _), d1, d2⟩, fun B hB => setCells_below hB _ _ _ (Below.refl _ _)⟩
theorem Tal.clearK (h : Tal w T n nw gz go gk gr Z O K R) (hn : 0 < nw) : ∃ w1, (∀ ty, (Builtin.clear_ #[99] ty #[.slice (some ⟨gk, 0, none⟩) nw nw]).run Yba.prog w = .ok (.tuple #[]) w1) ∧ Tal w1 T n nw gz go gk gr Z O (fun _ => 0) R ∧ ∀ B, B ≤ gk → Below B w w1 := by
  obtain ⟨n1, n2, n3, n4, n5, n6, n7, n8⟩ := h.nes
  obtain ⟨hb, rz, ro, rk, rr, d1, d2⟩ := h
  refine ⟨_, fun ty => clear103 w ty rk hn, ⟨(setCells_far _ (Ne.symm n3) _ _ _).trans hb, rz.of_block (setCells_far _ n5 _ _ _), ro.of_block (setCells_far _ n7 _ _ _), (setCells_row _ nw 0 w _ rk).ext (fun q hq => by rw [if_pos (by omega)]), rr.of_block (setCells_far _ (Ne.symm d2) _ _ _), d1, d2⟩, fun B hB => setCells_below hB _ _ _ (Below.refl _ _)⟩
theorem Tal.clearR (h : Tal w T n nw gz go gk gr Z O K R) (hn : 0 < nw) : ∃ w1, (∀ ty, (Builtin.clear_ #[99] ty #[.slice (some ⟨gr, 0, none⟩) nw nw]).run Yba.prog w = .ok (.tuple #[]) w1) ∧ Tal w1 T n nw gz go gk gr Z O K (fun _ => 0) ∧ ∀ B, B ≤ gr → Below B w w1 := by
  obtain ⟨n1, n2, n3, n4, n5, n6, n7, n8⟩ := h.nes
  obtain ⟨hb, rz, ro, rk, rr, d1, d2⟩ := h
  refine ⟨_, fun ty => clear103 w ty rr hn, ⟨(setCells_far _ (Ne.symm n4) _ _ _).trans hb, rz.of_block (setCells_far _ n6 _ _ _), ro.of_block (setCells_far _ n8 _ _ _), rk.of_block (setCells_far _ d2 _ _ _), (setCells_row _ nw 0 w _ rr).ext (fun q hq => by rw [if_pos (by omega)]), d1, d2⟩, fun B hB => setCells_below hB _ _ _ (Below.refl _ _)⟩
end

set_option maxHeartbeats 1000000 in
theorem reset_any (B T n nw gz go gk gr p q r : Nat) (input : Int) (Z O K R : Nat → Int) (w : World) (ht : Tal w T n nw gz go gk gr Z O K R) (hp : 1 ≤ p) (hp' : p ≤ n) (hn : n ≤ 700)
    (hq : (p - 1) / 64 = q) (hr : (p - 1) % 64 = r) (hi : q < nw) (b1 : B ≤ gz) (b2 : B ≤ go) (b3 : B ≤ gk) (b4 : B ≤ gr) :
    Calls Yba.prog 22 #[.pointer (some ⟨T, 0, none⟩), .int .i64 p, .int .i64 input] w fun e w' => e = .returned (.tuple #[]) ∧
      Tal w' T n nw gz go gk gr (fun i => if input = 0 ∧ i = p - 1 then 1 else 0) (fun i => if input ≠ 0 ∧ i = p - 1 then 1 else 0) (fun i => if i = q then bitAt r else 0) (fun i => if input = 0 ∧ i = q then bitAt r else 0) ∧ Below B w w' := by
  have hsl := fun (w : World) (a : Addr) (l c : Nat) => Lib.run_eql_slice_nil (P := Yba.prog) w 29 3 (some a) l c 0 0 Yba.underlying29
  simp only [Option.isNone_some] at hsl
  obtain ⟨w1, hcl1, ht1, hb1⟩ := ht.clearZ (by omega)
  obtain ⟨w2, hcl2, ht2, hb2⟩ := ht1.clearO (by omega)
  obtain ⟨w3, hcl3, ht3, hb3⟩ := ht2.clearK (by omega)
  obtain ⟨w4, hcl4, ht4, hb4⟩ := ht3.clearR (by omega)
  have HB4 := hidT ((((hb1 B b1).trans (hb2 B b2)).trans (hb3 B b3)).trans (hb4 B b4))
  obtain ⟨_, c1, _, _, _⟩ := ht.cells
  obtain ⟨_, _, c2, _, _⟩ := ht1.cells
  obtain ⟨_, _, _, c3, _⟩ := ht2.cells
  obtain ⟨_, _, _, _, c4⟩ := ht3.cells
  have HT4 := hidT ht4
  have hp1 : (1 : Int) ≤ (p : Int) := by omega
  have hp2 : (p : Int) ≤ 700 := by omega
  clear ht ht1 ht2 ht3 ht4 hb1 hb2 hb3 hb4
  by_cases h0 : input = 0
  · subst h0
    go_enter Yba.func22, Yba.ntmps22
    go_wp2_with fail
    refine (learn_zero B T n nw gz go gk gr p q r _ HT4.out hp hp' hn hq hr hi b1 b2 b3 b4).mono ?_
    rintro e w5 ⟨rfl, ht5, hb5⟩
    have HT5 := hidT ht5
    have HB5 := hidT hb5
    clear ht5 hb5
    go_wp2
    go_end0
    refine ⟨rfl, ?_, HB4.out.trans HB5.out⟩
    simpa using HT5.out
  · have h0' : (input == 0) = false := by simp [h0]
    go_enter Yba.func22, Yba.ntmps22
    go_wp2_with fail
    refine (learn_one B T n nw gz go gk gr p q r _ HT4.out hp hp' hn hq hr hi b1 b2 b3 b4).mono ?_
    rintro e w5 ⟨rfl, ht5, hb5⟩
    have HT5 := hidT ht5
    have HB5 := hidT hb5
    clear ht5 hb5
    go_wp2
    go_end0
    refine ⟨rfl, ?_, HB4.out.trans HB5.out⟩
    simpa [h0] using HT5.out
end Go.Proofs.Ybulkcawy
