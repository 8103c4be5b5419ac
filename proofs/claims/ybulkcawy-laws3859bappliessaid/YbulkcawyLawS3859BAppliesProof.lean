/-
  PROOF OF 'Rows.LawS3859BAppliesSaid'. The frame is the guide's template (proof-skeleton.mjs); the walk and the laws ahead of it are ours.
-/
import Derived.Test.YbulkcawyRows
import Derived.WalkKit
import Derived.ProofKit
import Derived.Laws.EntriesVeiled
import Derived.OpenShut
import Derived.ShutString
namespace Go.Proofs.Ybulkcawy.lawS3859BApplies
open Go.ChangeShapes Go.WideShapes Go.ChangeAt Go.RowKit
open Go.ChangeMaps (open_string shut_string)
set_option linter.unusedVariables false      -- a walk need not use every 'w<i>' (that an integer argument fits its kind)

theorem own : ownKnob Yba.prog.godebug = none := by kernel_rfl

/-! ### Laws on '==', '!=' between a function value and nil (the kit has none) -/
section
variable {P : Program} (w : World)
theorem run_neq_func_nil {t : TypeId} {a b : Array TypeId} {c : Bool} (h : P.underlying t = some (.func a b c)) (fn : Fn) (fs cs : Array Value) :
    (binOp .neq t (.func fn fs cs) .nilFunc).run P w = .ok (.bool true) w := by
  have h : ∀ d : Nat, (Op.equalIn (d + 1) t (.func fn fs cs) .nilFunc).run P w = .ok false w := fun d => by simp [Op.equalIn, run_underlying h]
  simp only [binOp]
  simp [Op.equal, Op.maxDepth, h 9999]
theorem run_neq_nil_nilFunc {t : TypeId} {a b : Array TypeId} {c : Bool} (h : P.underlying t = some (.func a b c)) :
    (binOp .neq t .nilFunc .nilFunc).run P w = .ok (.bool false) w := by
  have h : ∀ d : Nat, (Op.equalIn (d + 1) t .nilFunc .nilFunc).run P w = .ok true w := fun d => by simp [Op.equalIn, run_underlying h]
  simp only [binOp]
  simp [Op.equal, Op.maxDepth, h 9999]
theorem run_eql_ptr_same {t e : TypeId} {j : TypeInfo} (ht : P.underlying t = some (.pointer e)) (he : P.info? e = some j) (a : Addr) :
    (binOp .eql t (.pointer (some a)) (.pointer (some a))).run P w = .ok (.bool true) w := by
  have h : ∀ d : Nat, (Op.equalIn (d + 1) t (.pointer (some a)) (.pointer (some a))).run P w = .ok true w := fun d => by simp [Op.equalIn, run_underlying ht, sizeOf, typeInfo, he, sameAddr]
  simp only [binOp]
  simp [Op.equal, Op.maxDepth, h 9999]
end

/-! ### STEP 1: THE WALK: the Go text returns true. 'Grown w w'': the world has at most new blocks (Derived/RowKit3.lean). Part the cases AHEAD of 'go_enter' where a test parts the walk; take each callee by a contract of your own. -/
set_option maxHeartbeats 1000000 in
set_option maxRecDepth 100000 in
theorem walk (a0 : Int) (a1 : Int) (a2 : Bool) (a3 : Bool) (a4 : Bool) (w0 : (Lit.int .i64 a0).wf = true) (w1 : (Lit.int .i64 a1).wf = true) (w : World) :
    Calls Yba.prog 4 #[.int .i64 a0, .int .i64 a1, .bool a2, .bool a3, .bool a4] w fun e w' => e = .returned (.bool true) ∧ Grown w w' := by
  have f1 := fun (w : World) (fn : Fn) (fs cs : Array Value) => run_neq_func_nil (P := Yba.prog) w Yba.underlying88 fn fs cs
  have f2 := fun (w : World) => run_neq_nil_nilFunc (P := Yba.prog) w Yba.underlying88
  have f3 := fun (w : World) => run_neq_nil_nilFunc (P := Yba.prog) w Yba.underlying81
  obtain ⟨j83, hj83⟩ : ∃ j, Yba.prog.info? 83 = some j := ⟨_, rfl⟩
  have f4 := fun (w : World) (a : Addr) => run_eql_ptr_same (P := Yba.prog) w Yba.underlying86 hj83 a
  clear hj83
  cases a4
  · go_enter Yba.func4, Yba.ntmps4
    go_wp2
    go_end0
    go_wp2
    go_end0
    go_wp2
    go_ret
    exact ⟨by simp, by repeat (first | exact Grown.refl _ | apply Grown.drew | apply Grown.alloc)⟩
  · go_enter Yba.func4, Yba.ntmps4
    go_wp2
    go_end0
    go_wp2
    go_ret
    exact ⟨rfl, by repeat (first | exact Grown.refl _ | apply Grown.drew | apply Grown.alloc)⟩

/-! ### THE ROW's STEP: WRITTEN OUT: LEAVE IT -/
set_option maxRecDepth 100000 in
theorem lifted (os : Os) (started : os.Started) (H : Type) (enc : TypeId × Value → H) :
    ReturnsInHanded {} Yba.checked os 4 .any (Rows.lawS3859BAppliesSpec.pre6 enc Yba.prog Yba.f4 Rows.lawS3859BAppliesRow.domain false) (Rows.lawS3859BAppliesSpec.post enc Yba.prog Yba.f4 false true false false) := by
  refine returnsInHanded_of_change (C := Yba.checked) own started (by kernel_rfl) Yba.func4
    (ChangeSpec.witness6 (enc := enc) (C := Yba.checked) false ⟨#[], #[.int .i64 0, .int .i64 0, .bool false, .bool false, .bool false], []⟩ 8 (by kernel_rfl) (by kernel_rfl) (by kernel_rfl) (by kernel_rfl)) ?_
  intro W base args ds gs before hval0 hW hcnd _
  have hval : ∀ (j : Nat) t v, Yba.f4.params[j]? = some t → args[j]? = some v → Value.okWide Yba.prog W .any base t v := hval0
  have hW' := hW
  obtain ⟨p, q, hA0, hV, rfl, hfz, hnd⟩ := hW
  have hA : DataW.TrodAll enc Yba.prog W 0 (fun _ => true) true Yba.f4.params.toList args.toList ds p := hA0
  rw [Yba.params4] at hA hval
  obtain ⟨v0, vs0, d0, ds0, p0, q0, hargs, rfl, rfl, h0, r0⟩ := trodAll_cons hA
  obtain ⟨v1, vs1, d1, ds1, p1, q1, rfl, rfl, rfl, h1, r1⟩ := trodAll_cons r0
  obtain ⟨v2, vs2, d2, ds2, p2, q2, rfl, rfl, rfl, h2, r2⟩ := trodAll_cons r1
  obtain ⟨v3, vs3, d3, ds3, p3, q3, rfl, rfl, rfl, h3, r3⟩ := trodAll_cons r2
  obtain ⟨v4, vs4, d4, ds4, p4, q4, rfl, rfl, rfl, h4, r4⟩ := trodAll_cons r3
  obtain ⟨rfl, rfl, rfl⟩ := trodAll_nil r4
  obtain rfl : args = #[v0, v1, v2, v3, v4] := by cases args; simp_all
  obtain ⟨rfl, rfl⟩ := trodVars_none hV
  obtain ⟨a0, rfl, rfl, rfl, w0⟩ := open_int Yba.underlying3 (hval 0 3 v0 rfl rfl) h0
  obtain ⟨a1, rfl, rfl, rfl, w1⟩ := open_int Yba.underlying3 (hval 1 3 v1 rfl rfl) h1
  obtain ⟨a2, rfl, rfl, rfl⟩ := open_bool Yba.underlying4 (hval 2 4 v2 rfl rfl) h2
  obtain ⟨a3, rfl, rfl, rfl⟩ := open_bool Yba.underlying4 (hval 3 4 v3 rfl rfl) h3
  obtain ⟨a4, rfl, rfl, rfl⟩ := open_bool Yba.underlying4 (hval 4 4 v4 rfl rfl) h4
  clear hA0 hval0
  simp only [List.append_nil] at hW'
  refine (walk a0 a1 a2 a3 a4 w0 w1 W).mono fun e W' ⟨he, hg⟩ => ?_
  subst he
  exact ⟨_, rfl, post_of_same (pa := []) (pv := []) hW' (fun _ _ _ => (trodAll_cons_mk (shut_bool Yba.underlying4 _) trodAll_mk0)) (fun sp _ => (trodAll_cons_mk (shut_int Yba.underlying3 w0) (trodAll_cons_mk (shut_int Yba.underlying3 w1) (trodAll_cons_mk (shut_bool Yba.underlying4 _) (trodAll_cons_mk (shut_bool Yba.underlying4 _) (trodAll_cons_mk (shut_bool Yba.underlying4 _) trodAll_mk0)))))) (fun _ _ => rfl) rfl
    (hg.frame _) hg.2.1 (ok_one (by kernel_rfl) rfl (okWide_bool_mk Yba.underlying4 _))⟩

theorem over : Rows.lawS3859BAppliesRow.holds Yba.pinned (OpenSpec.ofChange Rows.lawS3859BAppliesSpec) :=
  OpenClaim.holds_of_wide 4 Yba.f4 rfl rfl rfl rfl rfl rfl rfl ⟨rfl, rfl, rfl, rfl, rfl⟩ rfl rfl rfl rfl rfl (by kernel_rfl) Yba.func4 (by kernel_rfl)
    (of_decide_eq_true (by kernel_rfl)) (by unfold Func.isWrapper; first | (rw [if_pos (by decide +kernel)]; kernel_rfl) | (rw [if_neg (by decide +kernel)]; exact ⟨rfl, rfl⟩))
    (fun os started H enc _ => lifted os started H enc)

/-- ████ THE STATEMENT ████ -/
theorem proved : Rows.LawS3859BAppliesSaid :=
  over
end Go.Proofs.Ybulkcawy.lawS3859BApplies
