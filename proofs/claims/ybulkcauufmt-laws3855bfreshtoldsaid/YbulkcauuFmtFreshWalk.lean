/-
  The walk of LawS3855BFresh (function 4).
-/
import Derived.Test.YbulkcauuFmtFresh
import Derived.Test.YbulkcauuFmtView
namespace Go.Proofs.YbulkcauuFmt
open Go.RowKit Go.Extern.Stop Go.Stop Go.Extern

theorem trusted_any (D : Nat) (tr : Int) (w : World) (d6 : w.cell? ⟨D, 6, none⟩ = some (.int .i64 tr)) :
    Calls Ybaf.prog 10 #[.pointer (some ⟨D, 0, none⟩)] w fun e w' => e = .returned (.int .i64 tr) ∧ w' = w := by
  go_enter Ybaf.func10, Ybaf.ntmps10
  go_wp2
  go_ret
  exact ⟨rfl, rfl⟩
theorem K_none : ∀ n, K (fun _ => false) n = []
  | 0 => rfl
  | n + 1 => by simp [K, K_none n]

set_option maxRecDepth 100000 in
set_option maxHeartbeats 1000000 in
theorem fresh_nogroup (F : Interp) (a0 a1 a2 : Int) (a : Addr) (s : ByteArray) (w : World) (hF : F.answers w.tape) (h0 : 0 ≤ a0) (h1 : a0 ≤ 65535)
    (hn : 1 + a0 % 300 < 2 ∨ 64 < 1 + a0 % 300)
    (hg : w.cell? ⟨0, 0, none⟩ = some (.iface 65 (.pointer (some a)))) (hs : w.cell? a = some (.string s)) :
    Calls Ybaf.prog 4 #[.int .u16 a0, .int .u16 a1, .int .i64 a2] w fun e w' => e = .returned (.bool true) ∧ Below w.heap.size w w' := by
  have HN := hid hn
  have HG := hid hg
  have HS := hid hs
  clear hn hg hs
  go_enter Ybaf.func4, Ybaf.ntmps4
  go_wp2_with fail
  refine (group_err F _ a s _ (by exact hF) (by exact HN.out) (by exact HG.out) (by exact HS.out)).mono ?_
  rintro e w1 ⟨hb, rfl⟩
  have HB := hid hb
  clear hb
  go_wp2
  go_ret
  exact ⟨rfl, HB.out.alloc HB.out.size _⟩

set_option maxRecDepth 100000 in
set_option maxHeartbeats 1000000 in
theorem fresh_group (a0 a1 a2 : Int) (w : World) (h0 : 0 ≤ a0) (h1 : a0 ≤ 65535) (h2 : 0 ≤ a1) (h3 : a1 ≤ 65535)
    (n : Nat) (hn : 1 + a0 % 300 = n) (hn2 : 2 ≤ n) (hn64 : n ≤ 64) :
    Calls Ybaf.prog 4 #[.int .u16 a0, .int .u16 a1, .int .i64 a2] w fun e w' => e = .returned (.bool true) ∧ Below w.heap.size w w' := by
  have g2 : (2 : Int) ≤ n := by omega
  have g64 : (n : Int) ≤ 64 := by omega
  have hne : ((n : Int) == 0) = false := by simp; omega
  have m0 : 0 ≤ a1 % (n : Int) := Int.emod_nonneg _ (by omega)
  have m1 : a1 % (n : Int) < n := Int.emod_lt_of_pos _ (by omega)
  go_enter Ybaf.func4, Ybaf.ntmps4
  go_wp2_with fail
  refine (group_ok _ _ g2 g64).mono ?_
  rintro e w1 ⟨hb, rfl⟩
  have HB := hid hb
  clear hb
  go_wp2_with fail
  refine (newDet n _ _ _ hn2 hn64).mono ?_
  rintro e w2 ⟨D, rfl, hdet, hb2⟩
  obtain ⟨g6, g10, g14, g18, g22, bD, hblk, b6, b10, b18, h6, h10, h18⟩ := hdet
  have HB2 : Hid (Below w.heap.size w w2) := (HB.out.alloc HB.out.size _).trans (hb2.mono (by have := HB.out.size; simp; omega))
  have hDlt : D < w2.heap.size := (Array.getElem?_eq_some_iff.1 hblk).1
  have HBK := hid hblk
  clear hb2 hblk h6 h10 b6 b10
  go_wp2_with fail
  refine (view_any (fun _ => false) D n g18 (n + 1) 0 1 _ hn64 (Nat.le_refl _) (by simp [World.cell?, HBK.out]) (by simp [World.cell?, HBK.out]) (by simp [World.cell?, HBK.out]) (by simp [World.cell?, HBK.out]) (fun q hq => h18.cell q (by omega))).mono ?_
  rintro e w3 ⟨v, rfl, hown, hb3⟩
  rw [K_none] at hown
  obtain ⟨ao, cp, rfl⟩ := own_form hown
  have d6 : w3.cell? ⟨D, 6, none⟩ = some (.int .i64 1) := (hb3.cell (by exact hDlt)).trans (by simp [World.cell?, HBK.out])
  have hD3 : D < w3.heap.size := Nat.lt_of_lt_of_le hDlt hb3.size
  have HB3 : Hid (Below w.heap.size w w3) := HB2.out.trans (hb3.mono HB2.out.size)
  clear hb3 hown h18
  have hx : ([] : List Int).length = 0 := rfl
  rw [hx]
  go_wp2_with (go_at_call 10; refine (trusted_any D 1 _ (by go_simp)).mono ?_; rintro e w4 ⟨rfl, rfl⟩)
  go_ret
  exact ⟨rfl, HB3.out.alloc HB3.out.size _⟩
end Go.Proofs.YbulkcauuFmt
