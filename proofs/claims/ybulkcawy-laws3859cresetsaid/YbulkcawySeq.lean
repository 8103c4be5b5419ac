/-
  The callees of LawS3859BSequence: MaxAdversaries (19), its closure (30), setCheck (18), settingsOf(nil) (31), checkSettingsOf (20).
-/
import Derived.Test.YbulkcawyProg
import Derived.Test.YbulkcawyRow
import Derived.Laws.EntriesVeiled
import Derived.Deep.AppendLies
namespace Go.Proofs.Ybulkcawy
open Go.RowKit
set_option linter.unusedVariables false

theorem hid {p : Prop} (h : p) : Hid p := h
section
variable {P : Program} (w : World)
theorem neq_func_nil {t : TypeId} {a b : Array TypeId} {c : Bool} (h : P.underlying t = some (.func a b c)) (fn : Fn) (fs cs : Array Value) :
    (binOp .neq t (.func fn fs cs) .nilFunc).run P w = .ok (.bool true) w := by
  have h : ∀ d : Nat, (Op.equalIn (d + 1) t (.func fn fs cs) .nilFunc).run P w = .ok false w := fun d => by simp [Op.equalIn, run_underlying h]
  simp only [binOp]
  simp [Op.equal, Op.maxDepth, h 9999]
theorem neq_nil_nilFunc {t : TypeId} {a b : Array TypeId} {c : Bool} (h : P.underlying t = some (.func a b c)) :
    (binOp .neq t .nilFunc .nilFunc).run P w = .ok (.bool false) w := by
  have h : ∀ d : Nat, (Op.equalIn (d + 1) t .nilFunc .nilFunc).run P w = .ok true w := fun d => by simp [Op.equalIn, run_underlying h]
  simp only [binOp]
  simp [Op.equal, Op.maxDepth, h 9999]
theorem eql_nil_nilFunc {t : TypeId} {a b : Array TypeId} {c : Bool} (h : P.underlying t = some (.func a b c)) :
    (binOp .eql t .nilFunc .nilFunc).run P w = .ok (.bool true) w := by
  have h : ∀ d : Nat, (Op.equalIn (d + 1) t .nilFunc .nilFunc).run P w = .ok true w := fun d => by simp [Op.equalIn, run_underlying h]
  simp only [binOp]
  simp [Op.equal, Op.maxDepth, h 9999]
end

theorem maxAdv (n : Int) (w : World) :
    Calls Yba.prog 19 #[.int .i64 n] w fun e w' => e = .returned (.func (.func 30) #[] #[.pointer (some ⟨w.heap.size, 0, none⟩)]) ∧ w' = w.alloc (.cells #[.int .i64 n] 3) := by
  go_enter Yba.func19, Yba.ntmps19
  go_wp2
  go_ret
  exact ⟨rfl, rfl⟩

theorem setCheck_nil (S : Nat) (w : World) :
    Calls Yba.prog 18 #[.nilFunc, .pointer (some ⟨S, 0, none⟩)] w fun e w' => e = .returned (.tuple #[]) ∧ w' = w := by
  have f2 := fun (w : World) => neq_nil_nilFunc (P := Yba.prog) w Yba.underlying88
  go_enter Yba.func18, Yba.ntmps18
  go_wp2
  go_end0
  exact ⟨rfl, rfl⟩

theorem setCheck_some (S b : Nat) (n : Int) (v : Value) (w : World) (hb : w.cell? ⟨b, 0, none⟩ = some (.int .i64 n)) (hs : w.cell? ⟨S, 0, none⟩ = some v) (hz : w.frozen? ⟨S, 0, none⟩ = false) :
    Calls Yba.prog 18 #[.func (.func 30) #[] #[.pointer (some ⟨b, 0, none⟩)], .pointer (some ⟨S, 0, none⟩)] w fun e w' => e = .returned (.tuple #[]) ∧ w' = w.setCell ⟨S, 0, none⟩ (.int .i64 n) := by
  have f1 := fun (w : World) (fn : Fn) (fs cs : Array Value) => neq_func_nil (P := Yba.prog) w Yba.underlying88 fn fs cs
  go_enter Yba.func18, Yba.ntmps18
  go_wp2
  go_end0
  go_wp2
  go_end0
  exact ⟨rfl, rfl⟩

set_option maxRecDepth 100000 in
theorem settingsNil (w : World) :
    Calls Yba.prog 31 #[.slice none 0 0] w fun e w' => e = .returned (.agg #[.int .i64 4294967296, .nilFunc]) ∧ Below w.heap.size w w' := by
  go_enter Yba.func31, Yba.ntmps31
  go_wp2
  refine wp_loop_rounds 1 ?_
  rw [rounds_succ]
  go_wp2
  refine bodyPost_ret (v := .agg #[.int .i64 4294967296, .nilFunc]) (by simp [results, Yba.results31, go_sem]) rfl ⟨rfl, ?_⟩
  exact ((Below.refl _ _).alloc (Nat.le_refl _) _).alloc (by simp) _

/-- What the element v of the options is: nil held in the interface; or MaxAdversaries(n), whose number lies in a block of its own. -/
def OptAt (w : World) (v : Value) : Option Int → Prop
  | none => v = .iface 88 .nilFunc
  | some n => ∃ b, v = .iface 88 (.func (.func 30) #[] #[.pointer (some ⟨b, 0, none⟩)]) ∧ w.heap[b]? = some (.cells #[.int .i64 n] 3 (0, 0))
/-- The limit behind the first k options. -/
def limTo (X : Nat → Option Int) : Nat → Int
  | 0 => 4294967296
  | k + 1 => match X k with
    | none => limTo X k
    | some n => n
theorem limTo_none {X : Nat → Option Int} {k : Nat} (h : X k = none) : limTo X (k + 1) = limTo X k := by simp [limTo, h]
theorem limTo_some {X : Nat → Option Int} {k : Nat} {n : Int} (h : X k = some n) : limTo X (k + 1) = n := by simp [limTo, h]
theorem OptAt.below {w w' : World} {v : Value} {x : Option Int} (h : OptAt w v x) (hb : Below w.heap.size w w') : OptAt w' v x := by
  cases x with
  | none => exact h
  | some n => obtain ⟨b, h1, h2⟩ := h; exact ⟨b, h1, (hb.block b (Array.getElem?_eq_some_iff.1 h2).1).trans h2⟩

theorem four_cells {w : World} {b : Nat} {x0 x1 x2 x3 : Value} {t : TypeId} (h : w.heap[b]? = some (.cells #[x0, x1, x2, x3] t (0, 0))) :
    w.cell? ⟨b, 0, none⟩ = some x0 ∧ w.cell? ⟨b, 1, none⟩ = some x1 ∧ w.cell? ⟨b, 2, none⟩ = some x2 ∧ w.cell? ⟨b, 3, none⟩ = some x3 ∧ w.frozen? ⟨b, 0, none⟩ = false ∧ w.frozen? ⟨b, 1, none⟩ = false ∧ w.frozen? ⟨b, 2, none⟩ = false ∧ w.frozen? ⟨b, 3, none⟩ = false := by
  simp [World.cell?, World.frozen?, h]
theorem four_setCell {w : World} {b : Nat} {x0 x1 x2 x3 : Value} {t : TypeId} (h : w.heap[b]? = some (.cells #[x0, x1, x2, x3] t (0, 0))) (u : Value) :
    (w.setCell ⟨b, 0, none⟩ u).heap[b]? = some (.cells #[u, x1, x2, x3] t (0, 0)) := by
  simp [World.setCell, Array.getElem?_modify, h]

/-- The first method's name of an interface type. -/
def mnameOf (P : Program) (t : TypeId) : String :=
  match P.underlying t with
  | some (.interface ms) => (ms.getD 0 ("", 0)).1
  | _ => ""
theorem methSet (v : Value) (w : World) : (method 251 88 v (mnameOf Yba.prog 115)).run Yba.prog w = .ok (18, v) w := by kernel_rfl

set_option maxRecDepth 100000 in
set_option maxHeartbeats 1000000 in
theorem checkSet (X : Nat → Option Int) (V : Nat → Value) (g m cap : Nat) (w : World) (hm : m ≤ 1024) (hg : g < w.heap.size)
    (hc : ∀ i, i < m → w.cell? ⟨g, i, none⟩ = some (V i)) (hX : ∀ i, i < m → OptAt w (V i) (X i)) :
    Calls Yba.prog 20 #[.slice (some ⟨g, 0, none⟩) m cap] w fun e w' => e = .returned (.agg #[.int .i64 (limTo X m), .nilFunc, .bool false, .bool false]) ∧ Below w.heap.size w w' := by
  have hmeth := methSet
  simp only [mnameOf, Yba.underlying115] at hmeth
  simp at hmeth
  have HC := hid hc
  have HX := hid hX
  clear hc hX
  go_enter Yba.func20, Yba.ntmps20
  go_wp2_with fail
  refine (settingsNil _).mono ?_
  rintro e w1 ⟨rfl, hb1⟩
  have hR : w1.heap[w.heap.size]? = some (.cells #[.int .i64 0, .nilFunc, .bool false, .bool false] 85 (0, 0)) := (hb1.block _ (by simp)).trans (heap_alloc_new _ _)
  have hw1 : w.heap.size + 1 ≤ w1.heap.size := by have := hb1.size; simpa using this
  have hb1' : Below w.heap.size w w1 := ((Below.refl _ _).alloc (Nat.le_refl _) _).trans (hb1.mono (by simp))
  have HR := hid hR
  have HB1 := hid hb1'
  clear hR hb1 hb1'
  go_wp2_with fail
  go_loopw [10] (fun i wr => ∃ k : Nat, k ≤ m ∧ i = .int .i64 k ∧ wr.heap[w1.heap.size]? = some (.cells #[.int .i64 (limTo X k), .nilFunc, .bool false, .bool false] 85 (0, 0)) ∧
      wr.heap[w.heap.size]? = some (.cells #[.int .i64 0, .nilFunc, .bool false, .bool false] 85 (0, 0)) ∧ Below w.heap.size w wr)
    (fun i _ => m - (intOf i).toNat)
  case atStart => exact ⟨0, Nat.zero_le _, rfl, heap_alloc_new _ _, (heap_alloc_old _ _ (by omega)).trans HR.out, HB1.out.alloc (by omega) _⟩
  case round =>
    clear HR HB1
    obtain ⟨k, hk, rfl, hS, hR, hbel⟩ := hrel
    obtain ⟨s0, s1, s2, s3, z0, z1, z2, z3⟩ := four_cells hS
    obtain ⟨r0, r1, r2, r3, y0, y1, y2, y3⟩ := four_cells hR
    by_cases hlt : k < m
    · have ec : wr.cell? ⟨g, k, none⟩ = some (V k) := (hbel.cell (by exact hg)).trans (HC.out k hlt)
      have ho := (HX.out k hlt).below hbel
      cases hx : X k with
      | none =>
        rw [hx] at ho
        have hv : V k = .iface 88 .nilFunc := ho
        rw [hv] at ec
        clear ho hv
        have HS := hid hS
        have HR := hid hR
        clear hS hR
        go_wp2_with (go_at_call 18; refine (setCheck_nil _ _).mono ?_; rintro e w2 ⟨rfl, rfl⟩)
        go_roundw
        case rel => exact ⟨k + 1, by omega, by go_num, by rw [limTo_none hx]; exact HS.out, HR.out, hbel⟩
        case measure => simp [intOf]; omega
      | some n =>
        rw [hx] at ho
        obtain ⟨b, hv, hbb⟩ := ho
        rw [hv] at ec
        clear hv
        have hbc : wr.cell? ⟨b, 0, none⟩ = some (.int .i64 n) := by simp [World.cell?, hbb]
        have HS := hid hS
        have HR := hid hR
        clear hS hR hbb
        go_wp2_with (go_at_call 18; refine (setCheck_some _ b n _ _ hbc s0 z0).mono ?_; rintro e w2 ⟨rfl, rfl⟩)
        go_roundw
        case rel => exact ⟨k + 1, by omega, by go_num, by rw [limTo_some hx]; exact four_setCell HS.out _, (Below.heap_setCell _ _ _ _ (by exact (by omega : w.heap.size ≠ w1.heap.size))).trans HR.out, hbel.setCell (by exact (by omega : w.heap.size ≤ w1.heap.size)) _⟩
        case measure => simp [intOf]; omega
    · obtain rfl : k = m := by omega
      go_wp2
      refine bodyPost_ret (v := .agg #[.int .i64 (limTo X k), .nilFunc, .bool false, .bool false]) (by simp [results, Yba.results20, go_sem, r0, r1, r2, r3]) rfl ⟨rfl, ?_⟩
      exact (((hbel.setCell (Nat.le_refl _) _).setCell (Nat.le_refl _) _).setCell (Nat.le_refl _) _).setCell (Nat.le_refl _) _
end Go.Proofs.Ybulkcawy
