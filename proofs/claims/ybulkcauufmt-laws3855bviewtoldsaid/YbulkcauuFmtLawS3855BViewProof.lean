/-
  PROOF OF 'Rows.LawS3855BViewToldSaid': the told and tied card of node.LawS3855BView.
-/
import Derived.Test.YbulkcauuFmtLift
import Derived.Test.YbulkcauuFmtViewWalk
import Derived.Deep.Grids
namespace Go.Proofs.YbulkcauuFmt
open Go.ChangeShapes Go.WideShapes Go.ChangeAt Go.RowKit Go.Kit
open Go.Extern.Stop Go.Stop Go.Extern
namespace lawS3855BView

set_option maxRecDepth 100000 in
set_option maxHeartbeats 1600000 in
theorem lifted (os : Os) (started : os.Started) (H : Type) (enc : TypeId × Value → H) :
    ReturnsInTold none {} Ybaf.checked os 3 .any Input.okWide ((OpenSpec.ofChange Rows.lawS3855BViewSpec).preRow enc Ybaf.prog Ybaf.f3 [] false Rows.lawS3855BViewRow.laid)
      (fun F => ((OpenSpec.ofChange Rows.lawS3855BViewSpec).at F).post enc Ybaf.prog Ybaf.f3 false true false false) (aloneAtReturn Ybaf.prog) nothingAlways := by
  refine returnsInTold_of_row (C := Ybaf.checked) (s := OpenSpec.ofChange Rows.lawS3855BViewSpec) (by kernel_rfl) own started (by kernel_rfl) Ybaf.func3
    (OpenSpec.witness_stopped_at (enc := enc) (C := Ybaf.checked) false (laidWorld Ybaf.prog os) #[.int .u16 0, .int .i64 0, .slice none 0 0] rfl (by kernel_rfl) (by kernel_rfl) (by kernel_rfl)
      (OpenSpec.preRow_of_B rfl 8 (by kernel_rfl) (by kernel_rfl) (laid_met os _))) ?_
  intro F W base args ds gs before _ hF hval0 hW _ _ _ hL _
  have hval : ∀ (j : Nat) t v, Ybaf.f3.params[j]? = some t → args[j]? = some v → Value.okWide Ybaf.prog W .any base t v := hval0
  have hW' := hW
  obtain ⟨p, q, hA0, hV0, rfl, hfz, hnd⟩ := hW
  have hA : DataW.TrodAll enc Ybaf.prog W 0 (fun _ => true) true Ybaf.f3.params.toList args.toList ds p := hA0
  have hV : DataW.TrodVars enc Ybaf.prog W (fun _ => true) [nG, nF] gs q := hV0
  rw [Ybaf.params3] at hA hval
  obtain ⟨v0, v1, v2, d0, d1, d2, p0, p1, p2, rfl, rfl, rfl, h0, h1, h2⟩ := trodAll_three hA
  obtain ⟨a0, rfl, rfl, rfl, w0⟩ := open_int Ybaf.underlying22 (hval 0 22 v0 rfl rfl) h0
  obtain ⟨a1, rfl, rfl, rfl, w1⟩ := open_int Ybaf.underlying3 (hval 1 3 v1 rfl rfl) h1
  obtain ⟨a2, len, cap, rfl⟩ := okWide_slice Ybaf.underlying23 (hval 2 23 v2 rfl rfl)
  have k2 := h2
  have lt2 : ∀ x ∈ p2, x.block < W.heap.size := by obtain ⟨m, hm⟩ := k2; exact DataW.trod_lt m _ _ _ hm
  obtain ⟨B, hB⟩ : ∃ B, IsBools W a2 len cap B := by
    obtain ⟨fuel, hf⟩ := h2
    rcases Deep.open_bools Ybaf.underlying23 Ybaf.underlying4 (by kernel_rfl) hf with ⟨hcs, _⟩ | ⟨x, l, c, B, hcs, _, hl, hm, _, hcell⟩
    · simp [Value.cells] at hcs
      obtain ⟨rfl, rfl, rfl⟩ := hcs
      exact ⟨fun _ => false, .inl ⟨rfl, rfl, rfl⟩⟩
    · simp [Value.cells] at hcs
      obtain ⟨rfl, rfl, rfl⟩ := hcs
      exact ⟨B, .inr ⟨_, rfl, hl, hm, hcell⟩⟩
  have hL' : laidMet Ybaf.prog Rows.lawS3855BViewRow.laid W := hL
  obtain ⟨s1, t1, hv1, hc1, hs1, hz1⟩ := laid_sentinel (n := nG) hL' gG gGType Ybaf.underlying52 row65 Ybaf.underlying65 Ybaf.underlying67 rfl rfl Ybaf.underlying9 cells67 cells9
  obtain ⟨s2, t2, hv2, hc2, hs2, hz2⟩ := laid_sentinel (n := nF) hL'.tail gF gFType Ybaf.underlying52 row65 Ybaf.underlying65 Ybaf.underlying67 rfl rfl Ybaf.underlying9 cells67 cells9
  obtain ⟨rfl, rfl⟩ := hV.unique (vars_read2 enc gG gGType Ybaf.underlying52 hv1 trivial gF gFType Ybaf.underlying52 hv2 trivial _)
  clear hA0 hV0 hval0
  have hg1 : W.cell? ⟨0, 0, none⟩ = some (.iface 65 (.pointer (some s1))) := by simpa using World.var?_cell gG hv1 0
  have hg2 : W.cell? ⟨1, 0, none⟩ = some (.iface 65 (.pointer (some s2))) := by simpa using World.var?_cell gF hv2 0
  have hlt0 := World.block_lt_of_cell? _ _ hg1
  have hlt1 := World.block_lt_of_cell? _ _ hg2
  have hfin : ∀ (e : Ending) (W' : World), e = .returned (.bool true) ∧ Below W.heap.size W W' → ∃ v, e = Ending.returned v ∧
      ((OpenSpec.ofChange Rows.lawS3855BViewSpec).at F.told).post enc Ybaf.checked.prog Ybaf.f3 false true false false W #[.int .u16 a0, .int .i64 a1, .slice a2 len cap] v W' := by
    rintro e W' ⟨rfl, bel⟩
    refine ⟨_, rfl, _, _, _, [], _, _, hW', trodAll_mk1 (shut_bool Ybaf.underlying4 _), trodAll_mk3 (shut_int Ybaf.underlying22 w0) (shut_int Ybaf.underlying3 w1) (Below.trod laidOut' (by kernel_rfl) (of_decide_eq_true (by kernel_rfl)) k2 bel lt2),
      vars_read2 enc gG gGType Ybaf.underlying52 (var?_below' bel gG hlt0 hv1) trivial gF gFType Ybaf.underlying52 (var?_below' bel gF hlt1 hv2) trivial _, bel.frame _, fun h => by cases h⟩
  have hb0 := bounds_u16 w0
  by_cases hl : 1024 < len
  · exact (view_long a0 a1 a2 len cap W hl).mono hfin
  by_cases hn : 1 + a0 % 300 < 2 ∨ 64 < 1 + a0 % 300
  · exact (view_nogroup F.told a0 a1 a2 len cap s1 t1 W hF (by omega) hb0.1 hb0.2 hn hg1 hc1).mono hfin
  · obtain ⟨n, hn'⟩ : ∃ n : Nat, 1 + a0 % 300 = n := ⟨(1 + a0 % 300).toNat, by omega⟩
    exact (view_group a0 a1 a2 len cap B W (by omega) hb0.1 hb0.2 n hn' (by omega) (by omega) hB).mono hfin

/-- ████ THE STATEMENT ████ -/
theorem proved : Rows.LawS3855BViewToldSaid :=
  Claim7.holds_of_told_tied_any_at .later 3 Ybaf.f3 "fmt.errorf" [] [] _ _ _ _ _ (by kernel_rfl) rfl rfl rfl laidOut (by kernel_rfl) rfl ⟨rfl, rfl, rfl, rfl, rfl, rfl, rfl⟩ rfl rfl (by kernel_rfl) (by kernel_rfl) Ybaf.func3 (by kernel_rfl)
    (of_decide_eq_true (by kernel_rfl)) (of_decide_eq_true (by kernel_rfl)) stops.symm rfl stopKnobs.symm (by kernel_rfl)
    (by kernel_rfl) (by kernel_rfl) (by kernel_rfl) (by kernel_rfl) (by kernel_rfl) (by kernel_rfl) (by kernel_rfl) (by kernel_rfl) (by kernel_rfl) rfl (by kernel_rfl) rfl rfl
    rfl rfl
    rfl (by kernel_rfl) (by kernel_rfl) (by kernel_rfl) (by decide) (by kernel_rfl) lawS3855BView_row_tie
    (OpenClaim.moreEntering_of (by kernel_rfl) (by kernel_rfl) (by kernel_rfl) (by kernel_rfl) (by kernel_rfl) (by kernel_rfl) (by kernel_rfl) (by kernel_rfl) (by kernel_rfl) (by kernel_rfl))
    ⟨_, WideRow.started_initial, quiet _⟩
    (fun os started _ H enc _ => lifted os started H enc)
end lawS3855BView
end Go.Proofs.YbulkcauuFmt
