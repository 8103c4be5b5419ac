/-
  PROOF OF 'Rows.LawS3855BFreshToldSaid': the told and tied card of node.LawS3855BFresh.
-/
import Derived.Test.YbulkcauuFmtLift
import Derived.Test.YbulkcauuFmtFreshWalk
namespace Go.Proofs.YbulkcauuFmt
open Go.ChangeShapes Go.WideShapes Go.ChangeAt Go.RowKit Go.Kit
open Go.Extern.Stop Go.Stop Go.Extern
namespace lawS3855BFresh

set_option maxRecDepth 100000 in
set_option maxHeartbeats 1600000 in
theorem lifted (os : Os) (started : os.Started) (H : Type) (enc : TypeId × Value → H) :
    ReturnsInTold none {} Ybaf.checked os 4 .any Input.okWide ((OpenSpec.ofChange Rows.lawS3855BFreshSpec).preRow enc Ybaf.prog Ybaf.f4 [] false Rows.lawS3855BFreshRow.laid)
      (fun F => ((OpenSpec.ofChange Rows.lawS3855BFreshSpec).at F).post enc Ybaf.prog Ybaf.f4 false true false false) (aloneAtReturn Ybaf.prog) nothingAlways := by
  refine returnsInTold_of_row (C := Ybaf.checked) (s := OpenSpec.ofChange Rows.lawS3855BFreshSpec) (by kernel_rfl) own started (by kernel_rfl) Ybaf.func4
    (OpenSpec.witness_stopped_at (enc := enc) (C := Ybaf.checked) false (laidWorld Ybaf.prog os) #[.int .u16 0, .int .u16 0, .int .i64 0] rfl (by kernel_rfl) (by kernel_rfl) (by kernel_rfl)
      (OpenSpec.preRow_of_B rfl 8 (by kernel_rfl) (by kernel_rfl) (laid_met os _))) ?_
  intro F W base args ds gs before _ hF hval0 hW _ _ _ hL _
  have hval : ∀ (j : Nat) t v, Ybaf.f4.params[j]? = some t → args[j]? = some v → Value.okWide Ybaf.prog W .any base t v := hval0
  have hW' := hW
  obtain ⟨p, q, hA0, hV0, rfl, hfz, hnd⟩ := hW
  have hA : DataW.TrodAll enc Ybaf.prog W 0 (fun _ => true) true Ybaf.f4.params.toList args.toList ds p := hA0
  have hV : DataW.TrodVars enc Ybaf.prog W (fun _ => true) [nG, nF] gs q := hV0
  rw [Ybaf.params4] at hA hval
  obtain ⟨v0, v1, v2, d0, d1, d2, p0, p1, p2, rfl, rfl, rfl, h0, h1, h2⟩ := trodAll_three hA
  obtain ⟨a0, rfl, rfl, rfl, w0⟩ := open_int Ybaf.underlying22 (hval 0 22 v0 rfl rfl) h0
  obtain ⟨a1, rfl, rfl, rfl, w1⟩ := open_int Ybaf.underlying22 (hval 1 22 v1 rfl rfl) h1
  obtain ⟨a2, rfl, rfl, rfl, w2⟩ := open_int Ybaf.underlying2 (hval 2 2 v2 rfl rfl) h2
  have hL' : laidMet Ybaf.prog Rows.lawS3855BFreshRow.laid W := hL
  obtain ⟨s1, t1, hv1, hc1, hs1, hz1⟩ := laid_sentinel (n := nG) hL' gG gGType Ybaf.underlying52 row65 Ybaf.underlying65 Ybaf.underlying67 rfl rfl Ybaf.underlying9 cells67 cells9
  obtain ⟨s2, t2, hv2, hc2, hs2, hz2⟩ := laid_sentinel (n := nF) hL'.tail gF gFType Ybaf.underlying52 row65 Ybaf.underlying65 Ybaf.underlying67 rfl rfl Ybaf.underlying9 cells67 cells9
  obtain ⟨rfl, rfl⟩ := hV.unique (vars_read2 enc gG gGType Ybaf.underlying52 hv1 trivial gF gFType Ybaf.underlying52 hv2 trivial _)
  clear hA0 hV0 hval0
  have hg1 : W.cell? ⟨0, 0, none⟩ = some (.iface 65 (.pointer (some s1))) := by simpa using World.var?_cell gG hv1 0
  have hg2 : W.cell? ⟨1, 0, none⟩ = some (.iface 65 (.pointer (some s2))) := by simpa using World.var?_cell gF hv2 0
  have hlt0 := World.block_lt_of_cell? _ _ hg1
  have hlt1 := World.block_lt_of_cell? _ _ hg2
  have hfin : ∀ (e : Ending) (W' : World), e = .returned (.bool true) ∧ Below W.heap.size W W' → ∃ v, e = Ending.returned v ∧
      ((OpenSpec.ofChange Rows.lawS3855BFreshSpec).at F.told).post enc Ybaf.checked.prog Ybaf.f4 false true false false W #[.int .u16 a0, .int .u16 a1, .int .i64 a2] v W' := by
    rintro e W' ⟨rfl, bel⟩
    refine ⟨_, rfl, _, _, _, [], _, _, hW', trodAll_mk1 (shut_bool Ybaf.underlying4 _), trodAll_mk3 (shut_int Ybaf.underlying22 w0) (shut_int Ybaf.underlying22 w1) (shut_int Ybaf.underlying2 w2),
      vars_read2 enc gG gGType Ybaf.underlying52 (var?_below' bel gG hlt0 hv1) trivial gF gFType Ybaf.underlying52 (var?_below' bel gF hlt1 hv2) trivial _, bel.frame _, fun h => by cases h⟩
  have hb0 := bounds_u16 w0
  have hb1 := bounds_u16 w1
  by_cases hn : 1 + a0 % 300 < 2 ∨ 64 < 1 + a0 % 300
  · exact (fresh_nogroup F.told a0 a1 a2 s1 t1 W hF hb0.1 hb0.2 hn hg1 hc1).mono hfin
  · obtain ⟨n, hn'⟩ : ∃ n : Nat, 1 + a0 % 300 = n := ⟨(1 + a0 % 300).toNat, by omega⟩
    exact (fresh_group a0 a1 a2 W hb0.1 hb0.2 hb1.1 hb1.2 n hn' (by omega) (by omega)).mono hfin

/-- ████ THE STATEMENT ████ -/
theorem proved : Rows.LawS3855BFreshToldSaid :=
  Claim7.holds_of_told_tied_any_at .later 4 Ybaf.f4 "fmt.errorf" [] [] _ _ _ _ _ (by kernel_rfl) rfl rfl rfl laidOut (by kernel_rfl) rfl ⟨rfl, rfl, rfl, rfl, rfl, rfl, rfl⟩ rfl rfl (by kernel_rfl) (by kernel_rfl) Ybaf.func4 (by kernel_rfl)
    (of_decide_eq_true (by kernel_rfl)) (of_decide_eq_true (by kernel_rfl)) stops.symm rfl stopKnobs.symm (by kernel_rfl)
    (by kernel_rfl) (by kernel_rfl) (by kernel_rfl) (by kernel_rfl) (by kernel_rfl) (by kernel_rfl) (by kernel_rfl) (by kernel_rfl) (by kernel_rfl) rfl (by kernel_rfl) rfl rfl
    rfl rfl
    rfl (by kernel_rfl) (by kernel_rfl) (by kernel_rfl) (by decide) (by kernel_rfl) lawS3855BFresh_row_tie
    (OpenClaim.moreEntering_of (by kernel_rfl) (by kernel_rfl) (by kernel_rfl) (by kernel_rfl) (by kernel_rfl) (by kernel_rfl) (by kernel_rfl) (by kernel_rfl) (by kernel_rfl) (by kernel_rfl))
    ⟨_, WideRow.started_initial, quiet _⟩
    (fun os started _ H enc _ => lifted os started H enc)
end lawS3855BFresh
end Go.Proofs.YbulkcauuFmt
