/-
  The walk of LawS3859CReset (function 6).
-/
import Derived.Test.YbulkcawyReset
import Derived.Test.YbulkcawySeqWalk
import Derived.Deep.CutBlock
import Derived.Deep.CutRange
namespace Go.Proofs.Ybulkcawy
open Go.RowKit
set_option linter.unusedVariables false

theorem Tal.below {w w' : World} {T n nw gz go gk gr : Nat} {Z O K R : Nat → Int} (h : Tal w T n nw gz go gk gr Z O K R) (hb : Below w.heap.size w w') : Tal w' T n nw gz go gk gr Z O K R := by
  obtain ⟨h1, r1, r2, r3, r4, d1, d2⟩ := h
  exact ⟨(hb.block T (Array.getElem?_eq_some_iff.1 h1).1).trans h1, r1.below hb r1.lt, r2.below hb r2.lt, r3.below hb r3.lt, r4.below hb r4.lt, d1, d2⟩

set_option maxRecDepth 100000 in
theorem reset_long (a0 a1 a2 : Int) (a3 a4 : Option Addr) (l3 c3 l4 c4 : Nat) (w : World) (hl : 4096 < l3 ∨ 4096 < l4) :
    Calls Yba.prog 6 #[.int .u16 a0, .int .u16 a1, .int .i64 a2, .slice a3 l3 c3, .slice a4 l4 c4] w fun e w' => e = .returned (.bool true) ∧ Below w.heap.size w w' := by
  by_cases h3 : 4096 < l3
  · have h : (4096 : Int) < (l3 : Int) := by omega
    go_enter Yba.func6, Yba.ntmps6
    go_wp2
    go_ret
    exact ⟨rfl, Below.refl _ _⟩
  · have h : ¬ (4096 : Int) < (l3 : Int) := by omega
    have h' : (4096 : Int) < (l4 : Int) := by omega
    go_enter Yba.func6, Yba.ntmps6
    go_wp2
    go_ret
    exact ⟨rfl, Below.refl _ _⟩

set_option maxRecDepth 100000 in
set_option maxHeartbeats 4000000 in
theorem reset_walk (a0 a1 a2 : Int) (a3 a4 : Option Addr) (l3 c3 l4 c4 : Nat) (z3 z4 : List Int) (w : World) (h3 : l3 ≤ 4096) (h4 : l4 ≤ 4096) (w3 : IsRow .i64 w a3 l3 c3 z3) (w4 : IsRow .u64 w a4 l4 c4 z4)
    (n nw p q r : Nat) (ha0 : 0 ≤ a0) (ha0' : a0 ≤ 65535) (ha1 : 0 ≤ a1) (ha1' : a1 ≤ 65535) (hn : 1 + a0 % 700 = n) (hp : 1 + a1 % (n : Int) = p) (hnw : (n + 63) / 64 = nw) (hq : (p - 1) / 64 = q) (hr : (p - 1) % 64 = r) :
    Calls Yba.prog 6 #[.int .u16 a0, .int .u16 a1, .int .i64 a2, .slice a3 l3 c3, .slice a4 l4 c4] w fun e w' => e = .returned (.bool true) ∧ Below w.heap.size w w' := by
  have n1 : 1 ≤ n := by omega
  have n700 : n ≤ 700 := by omega
  have m0 : 0 ≤ a1 % (n : Int) := Int.emod_nonneg _ (by omega)
  have m1 : a1 % (n : Int) < n := Int.emod_lt_of_pos _ (by omega)
  have p1 : 1 ≤ p := by omega
  have pn : p ≤ n := by omega
  have hqw : q < nw := by omega
  have n1' : (1 : Int) ≤ (n : Int) := by omega
  have n700' : (n : Int) ≤ 700 := by omega
  have p1' : (1 : Int) ≤ (p : Int) := by omega
  have p700' : (p : Int) ≤ 700 := by omega
  have g3 : decide ((4096 : Int) < (l3 : Int)) = false := by simp; omega
  have g4 : decide ((4096 : Int) < (l4 : Int)) = false := by simp; omega
  have hne : ((n : Int) == 0) = false := by simp; omega
  have W3 := hidT w3
  have W4 := hidT w4
  have HN := hidT hnw
  have HQ := hidT hq
  have HRR := hidT hr
  clear w3 w4 hnw hq hr
  go_enter Yba.func6, Yba.ntmps6
  go_wp2_with fail
  refine (newTally n nw n1 n700 HN.out _).mono ?_
  rintro e w1 ⟨gz, go, gk, gr, rfl, b1, b2, b3, b4, rz, ro, rk, rr, d1, d2, hb1⟩
  have hs1 := hb1.size
  have ht : Tal (w1.alloc (.cells #[.int .i64 n, .slice (some ⟨gz, 0, none⟩) n n, .slice (some ⟨go, 0, none⟩) n n, .slice (some ⟨gk, 0, none⟩) nw nw, .slice (some ⟨gr, 0, none⟩) nw nw] 101)) w1.heap.size n nw gz go gk gr (fun _ => 0) (fun _ => 0) (fun _ => 0) (fun _ => 0) :=
    ⟨heap_alloc_new _ _, rz.alloc _, ro.alloc _, rk.alloc _, rr.alloc _, d1, d2⟩
  have HT := hidT ht
  have HB := hidT (hb1.alloc hs1 (.cells #[.int .i64 n, .slice (some ⟨gz, 0, none⟩) n n, .slice (some ⟨go, 0, none⟩) n n, .slice (some ⟨gk, 0, none⟩) nw nw, .slice (some ⟨gr, 0, none⟩) nw nw] 101))
  clear rz ro rk rr ht hb1
  go_upto_block 0 with fail
  go_cut [] from 43 to 73 (fun wc => ∃ (Z O : Nat → Int), Tal wc w1.heap.size n nw gz go gk gr Z O (fun _ => 0) (fun _ => 0) ∧ Below w.heap.size w wc)
  case first =>
    go_wp2_with fail
    go_loopw [14] (fun i wr => ∃ (k : Nat) (Z O : Nat → Int), k ≤ n ∧ i = .int .i64 k ∧ Tal wr w1.heap.size n nw gz go gk gr Z O (fun _ => 0) (fun _ => 0) ∧ Below w.heap.size w wr)
      (fun i _ => n - (intOf i).toNat)
    case atStart => exact ⟨0, _, _, Nat.zero_le _, rfl, HT.out, HB.out⟩
    case round =>
      clear HT HB
      obtain ⟨k, Z, O, hk, rfl, ht, hbel⟩ := hrel
      obtain ⟨c0, c1, c2, c3, c4⟩ := ht.cells
      by_cases hkn : k < n
      · have hkn' : (k : Int) < (n : Int) := by omega
        by_cases hkl : k < l3
        · have hkl' : (k : Int) < (l3 : Int) := by omega
          obtain ⟨j, hj⟩ : ∃ j : Nat, (l3 : Int) - 1 - (k : Int) = (j : Int) := ⟨l3 - 1 - k, by omega⟩
          obtain ⟨b, off, rfl, hblt, hbc⟩ := ints_at' W3.out hkl
          obtain ⟨b', off', e, _, hbc'⟩ := ints_at' W3.out (k := j) (by omega)
          injection e with e
          injection e with e1 e2
          subst e1
          subst e2
          have x1 := (hbel.cell (p := ⟨b, off + k, none⟩) hblt).trans hbc
          have x2 := (hbel.cell (p := ⟨b, off + j, none⟩) hblt).trans hbc'
          have cz := ht.2.1.cell k hkn
          have zz := ht.2.1.frozen k
          have co := ht.2.2.1.cell k hkn
          have zo := ht.2.2.1.frozen k
          obtain ⟨q1, q2, q3, q4, q5, q6, q7, q8⟩ := ht.nes
          have i0 : (0 : Int) ≤ (k : Int) := by omega
          have j0 : (0 : Int) ≤ (j : Int) := by omega
          have j1 : (j : Int) < (l3 : Int) := by omega
          have q9 : b ≠ gz := by omega
          have q10 : w1.heap.size ≠ gz := Ne.symm q1
          have q11 : go ≠ gz := Ne.symm d1
          have HT := hidT ht
          have HB := hidT hbel
          clear hbc hbc' ht hbel
          go_wp2_with fail
          go_region
          go_wp2
          go_region
          go_wp2
          go_roundw
          case rel => exact ⟨k + 1, _, _, by omega, by go_num, ((HT.out.setZ k _).setO k _).drew.drew, ((HB.out.setCell (by exact b1) _).setCell (by exact b2) _).drew.drew⟩
          case measure => simp [intOf]; omega
        · have hkl' : ¬ (k : Int) < (l3 : Int) := by omega
          have HT := hidT ht
          have HB := hidT hbel
          clear ht hbel
          go_wp2
          go_meet
          case rel => exact ⟨Z, O, HT.out, HB.out⟩
      · have hkn' : ¬ (k : Int) < (n : Int) := by omega
        have HT := hidT ht
        have HB := hidT hbel
        clear ht hbel
        go_wp2
        go_meet
        case rel => exact ⟨Z, O, HT.out, HB.out⟩
  case rest =>
    clear HT HB
    obtain ⟨Z, O, ht, hbel⟩ := hcut
    have HT := hidT ht
    have HB := hidT hbel
    clear ht hbel
    go_upto_block 2 with fail
    obtain ⟨wd, hwd⟩ : ∃ wd, wd = wc := ⟨_, rfl⟩
    subst hwd
    go_cut [] from 74 to 103 (fun wc => ∃ (K R : Nat → Int), Tal wc w1.heap.size n nw gz go gk gr Z O K R ∧ Below w.heap.size w wc)
    case first =>
      go_wp2_with fail
      go_loopw [15] (fun i wr => ∃ (k : Nat) (K R : Nat → Int), k ≤ nw ∧ i = .int .i64 k ∧ Tal wr w1.heap.size n nw gz go gk gr Z O K R ∧ Below w.heap.size w wr)
        (fun i _ => nw - (intOf i).toNat)
      case atStart => exact ⟨0, _, _, Nat.zero_le _, rfl, HT.out, HB.out⟩
      case round =>
        clear HT HB
        obtain ⟨k, K, R, hk, rfl, ht, hbel⟩ := hrel
        obtain ⟨c0, c1, c2, c3, c4⟩ := ht.cells
        have hnw700 : (nw : Int) ≤ 700 := by have := HN.out; omega
        by_cases hkn : k < nw
        · have hkn' : (k : Int) < (nw : Int) := by omega
          by_cases hkl : k < l4
          · have hkl' : (k : Int) < (l4 : Int) := by omega
            obtain ⟨b, off, rfl, hblt, hbc⟩ := ints_at' W4.out hkl
            have x1 := (hbel.cell (p := ⟨b, off + k, none⟩) hblt).trans hbc
            have cz := ht.2.2.2.1.cell k hkn
            have zz := ht.2.2.2.1.frozen k
            have co := ht.2.2.2.2.1.cell k hkn
            have zo := ht.2.2.2.2.1.frozen k
            obtain ⟨q1, q2, q3, q4, q5, q6, q7, q8⟩ := ht.nes
            have i0 : (0 : Int) ≤ (k : Int) := by omega
            have q9 : b ≠ gk := by omega
            have q10 : w1.heap.size ≠ gk := Ne.symm q3
            have q11 : gr ≠ gk := Ne.symm d2
            have HT := hidT ht
            have HB := hidT hbel
            clear hbc ht hbel
            go_wp2_with fail
            go_region
            go_wp2
            go_region
            go_wp2
            go_roundw
            case rel => exact ⟨k + 1, _, _, by omega, by go_num, ((HT.out.setK k _).setR k _).drew.drew, ((HB.out.setCell (by exact b3) _).setCell (by exact b4) _).drew.drew⟩
            case measure => simp [intOf]; omega
          · have hkl' : ¬ (k : Int) < (l4 : Int) := by omega
            have HT := hidT ht
            have HB := hidT hbel
            clear ht hbel
            go_wp2
            go_meet
            case rel => exact ⟨K, R, HT.out, HB.out⟩
        · have hkn' : ¬ (k : Int) < (nw : Int) := by omega
          have HT := hidT ht
          have HB := hidT hbel
          clear ht hbel
          go_wp2
          go_meet
          case rel => exact ⟨K, R, HT.out, HB.out⟩
    case rest =>
      clear HT HB
      obtain ⟨K, R, ht, hbel⟩ := hcut
      have HT := hidT ht
      have HB := hidT hbel
      clear ht hbel
      go_wp2_with fail
      refine (reset_any w.heap.size w1.heap.size n nw gz go gk gr p q r a2 Z O K R _ HT.out p1 pn n700 HQ.out HRR.out hqw b1 b2 b3 b4).mono ?_
      rintro e w2 ⟨rfl, ht2, hb2⟩
      obtain ⟨c0, c1, c2, c3, c4⟩ := ht2.cells
      have HT2 := hidT ht2
      have HB2 := hidT (HB.out.trans hb2)
      clear ht2 hb2 HT HB
      have hnn : ((n : Int) != (n : Int)) = false := by simp
      have hww : ((nw : Int) != (nw : Int)) = false := by simp
      have hnw' : ((n : Int) + 63) / 64 = (nw : Int) := by have := HN.out; omega
      have hnw700 : (nw : Int) ≤ 700 := by have := HN.out; omega
      have hz : ∃ z : Bool, (a2 == 0) = z ∧ (z = true ↔ a2 = 0) := ⟨_, rfl, by simp⟩
      obtain ⟨z, hz1, hz2⟩ := hz
      have HZ2 := hidT hz2
      clear hz2
      go_wp2_with fail
      go_loop [18] (fun i => ∃ k : Nat, k ≤ n ∧ i = .int .i64 k) (fun i => n - (intOf i).toNat)
      case atStart => exact ⟨0, Nat.zero_le _, rfl⟩
      case round =>
        obtain ⟨k, hk, rfl⟩ := hrel
        by_cases hkn : k < n
        · have hkn' : (k : Int) < (n : Int) := by omega
          have i0 : (0 : Int) ≤ (k : Int) := by omega
          have cz := HT2.out.2.1.cell k hkn
          have co := HT2.out.2.2.1.cell k hkn
          dsimp only at cz co
          clear c0 c3 c4
          by_cases hkp : k = p - 1
          · have e1 : ((k : Int) == (p : Int) - 1) = true := by simp; omega
            cases z with
            | true =>
              have h0 : a2 = 0 := HZ2.out.1 rfl
              have ez : (if a2 = 0 ∧ k = p - 1 then (1 : Int) else 0) = 1 := by rw [if_pos ⟨h0, hkp⟩]
              have eo : (if a2 ≠ 0 ∧ k = p - 1 then (1 : Int) else 0) = 0 := by rw [if_neg (fun h => h.1 h0)]
              rw [ez] at cz
              rw [eo] at co
              clear ez eo h0 hkp
              go_wp2
              go_round
              case rel => exact ⟨k + 1, by omega, by go_num⟩
              case measure => simp [intOf]; omega
            | false =>
              have h0 : ¬ a2 = 0 := fun h => by have := HZ2.out.2 h; cases this
              have ez : (if a2 = 0 ∧ k = p - 1 then (1 : Int) else 0) = 0 := by rw [if_neg (fun h => h0 h.1)]
              have eo : (if a2 ≠ 0 ∧ k = p - 1 then (1 : Int) else 0) = 1 := by rw [if_pos ⟨h0, hkp⟩]
              rw [ez] at cz
              rw [eo] at co
              clear ez eo h0 hkp
              go_wp2
              go_round
              case rel => exact ⟨k + 1, by omega, by go_num⟩
              case measure => simp [intOf]; omega
          · have e1 : ((k : Int) == (p : Int) - 1) = false := by simp; omega
            have ez : (if a2 = 0 ∧ k = p - 1 then (1 : Int) else 0) = 0 := by rw [if_neg (fun h => hkp h.2)]
            have eo : (if a2 ≠ 0 ∧ k = p - 1 then (1 : Int) else 0) = 0 := by rw [if_neg (fun h => hkp h.2)]
            rw [ez] at cz
            rw [eo] at co
            clear ez eo hkp
            go_wp2
            go_round
            case rel => exact ⟨k + 1, by omega, by go_num⟩
            case measure => simp [intOf]; omega
        · have hkn' : ¬ (k : Int) < (n : Int) := by omega
          go_wp2_with fail
          go_loop [21] (fun i => ∃ k : Nat, k ≤ nw ∧ i = .int .i64 k) (fun i => nw - (intOf i).toNat)
          case atStart => exact ⟨0, Nat.zero_le _, rfl⟩
          case round =>
            obtain ⟨j, hj, rfl⟩ := hrel
            have hq1 : ((p : Int) - 1) / 64 = (q : Int) := by have := HQ.out; omega
            have hr1 : ((p : Int) - 1) % 64 = (r : Int) := by have := HRR.out; omega
            have hr64 : (r : Int) < 64 := by have := HRR.out; omega
            clear hkn'
            by_cases hjn : j < nw
            · have hjn' : (j : Int) < (nw : Int) := by omega
              have i0 : (0 : Int) ≤ (j : Int) := by omega
              have cz := HT2.out.2.2.2.1.cell j hjn
              have co := HT2.out.2.2.2.2.1.cell j hjn
              dsimp only at cz co
              clear c0 c1 c2
              by_cases hjq : j = q
              · have e1 : ((j : Int) == (q : Int)) = true := by simp; omega
                rw [if_pos hjq] at cz
                unfold bitAt at cz co
                have hbb : (IntKind.u64.wrap (2 ^ r) != IntKind.u64.wrap (2 ^ r)) = false := by simp
                cases z with
                | true =>
                  have h0 : a2 = 0 := HZ2.out.1 rfl
                  rw [if_pos ⟨h0, hjq⟩] at co
                  clear h0 hjq
                  go_wp2
                  go_round
                  case rel => exact ⟨j + 1, by omega, by go_num⟩
                  case measure => simp [intOf]; omega
                | false =>
                  have h0 : ¬ a2 = 0 := fun h => by have := HZ2.out.2 h; cases this
                  rw [if_neg (fun h => h0 h.1)] at co
                  clear h0 hjq
                  go_wp2
                  go_round
                  case rel => exact ⟨j + 1, by omega, by go_num⟩
                  case measure => simp [intOf]; omega
              · have e1 : ((j : Int) == (q : Int)) = false := by simp; omega
                rw [if_neg hjq] at cz
                rw [if_neg (fun h => hjq h.2)] at co
                clear hjq
                cases z with
                | true =>
                  go_wp2
                  go_round
                  case rel => exact ⟨j + 1, by omega, by go_num⟩
                  case measure => simp [intOf]; omega
                | false =>
                  go_wp2
                  go_round
                  case rel => exact ⟨j + 1, by omega, by go_num⟩
                  case measure => simp [intOf]; omega
            · have hjn' : ¬ (j : Int) < (nw : Int) := by omega
              go_wp2
              go_ret
              exact ⟨rfl, HB2.out⟩
end Go.Proofs.Ybulkcawy
