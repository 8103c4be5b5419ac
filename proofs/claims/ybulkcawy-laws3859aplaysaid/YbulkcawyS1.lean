/-
  LawS3859APlay: the whole, part by part: what stands ahead of the player.
-/
import Derived.Test.YbulkcawyF38
namespace Go.Proofs.Ybulkcawy
open Go.RowKit
set_option linter.unusedSimpArgs false
set_option linter.unusedVariables false
set_option maxRecDepth 100000
set_option maxHeartbeats 4000000

def tailN : Nat → Code → Code
  | 0, c => c
  | k + 1, .seq _ b => tailN k b
  | _, c => c
/-- What is left of the function's body behind its first k parts. -/
def tlOf (f : Go.Func) (k : Nat) : Code := tailN k (f.body.getD .skip)

theorem t27zero : Yba.t27.zero = some (.agg (Array.replicate 294 (.bool false))) := by kernel_rfl
theorem zero27 (w : World) : Sem.run Yba.prog (zeroValue 27) w = .ok (.agg (Array.replicate 294 (.bool false))) w := by
  simp [zeroValue, go_sem, t27zero]
theorem Row.rep (w : World) (z : Value) (t : TypeId) (n : Nat) : Row (w.alloc (.cells (Array.replicate n z) t)) w.heap.size t n (fun _ => z) :=
  ⟨_, heap_alloc_new _ _, by simp, fun q hq => by simp [hq]⟩

theorem Only.low {B : Nat} {S : Nat → Prop} {w w' : World} (h : Only S w w') (hs : ∀ b, S b → B ≤ b) : Only (fun b => B ≤ b) w w' := h.mono fun b _ e => hs b e

/-- What the input's tables are worth to the rest. -/
structure Tabs (p : Inp) (B : Nat) (cv ov ev : Value) (w : World) : Prop where
  C : Row w B 23 7 (fun k => .int .i64 (upTo p.n p.crA k))
  RM : Row w (B + 1) 24 7 (fun k => .int .u8 (upTo p.n p.reA k))
  D : Row w (B + 2) 23 7 (fun k => .int .i64 (upTo p.n p.dcA k))
  L : Row w (B + 3) 27 294 (fun x => .bool (lostT p p.omN x))
  cs : FailO w B 32 cv (p.clA p.n)
  os : FailO w B 36 ov (p.olA p.omN)
  ev : w.ownsRow B 40 3 ev (allE p (p.last + 1)).length (evsV (allE p (p.last + 1)))

theorem st1 (p : Inp) (hp : p.ok) (x0 x1 : Nat) (hx0 : x0 ≤ 255) (hx1 : x1 ≤ 255) (hn : p.n = 1 + x0 % 6) (hl : p.last = x1 % 6) (v2 v3 v4 v5 v6 v7 v8 v9 v10 : Value) (w : World)
    (hb4 : BytesAt w w.heap.size v4 p.lc p.fc) (hb5 : BytesAt w w.heap.size v5 p.lr p.fr) (hb6 : BytesAt w w.heap.size v6 p.ld p.fd) (hb7 : BytesAt w w.heap.size v7 p.lq p.fq) (hb8 : BytesAt w w.heap.size v8 p.lo p.fo) (hb9 : BytesAt w w.heap.size v9 p.lm p.fm) (hb10 : BytesAt w w.heap.size v10 p.le p.fe)
    (T : Array Value) (Q : Exit → Act → World → Prop) (hT : T.size = 735) (t0 : T[0]?.getD undef = .int .u8 x0) (t1 : T[1]?.getD undef = .int .u8 x1) (t2 : T[2]?.getD undef = v2) (t3 : T[3]?.getD undef = v3) (t4 : T[4]?.getD undef = v4) (t5 : T[5]?.getD undef = v5) (t6 : T[6]?.getD undef = v6) (t7 : T[7]?.getD undef = v7) (t8 : T[8]?.getD undef = v8) (t9 : T[9]?.getD undef = v9) (t10 : T[10]?.getD undef = v10)
    (hQ : ∀ T' w' cv ov ev, T'.size = 735 → T'[2]?.getD undef = v2 → T'[3]?.getD undef = v3 → T'[23]?.getD undef = .int .i64 p.n → T'[24]?.getD undef = .int .i64 p.last → T'[25]?.getD undef = .pointer (some ⟨w.heap.size, 0, none⟩) → T'[26]?.getD undef = .pointer (some ⟨w.heap.size + 1, 0, none⟩) → T'[27]?.getD undef = .pointer (some ⟨w.heap.size + 2, 0, none⟩) → T'[28]?.getD undef = .pointer (some ⟨w.heap.size + 3, 0, none⟩) → T'[29]?.getD undef = cv → T'[35]?.getD undef = .func (.func 8) #[] #[.pointer (some ⟨w.heap.size, 0, none⟩)] → T'[36]?.getD undef = ov → T'[43]?.getD undef = ev → Tabs p w.heap.size cv ov ev w' → Only (fun b => w.heap.size ≤ b) w w' → (tlOf Yba.f3 14).wp Yba.prog Q ⟨T', []⟩ w') : (tlOf Yba.f3 0).wp Yba.prog Q ⟨T, []⟩ w := by
  conv in (tlOf Yba.f3 0) => whnf
  have HQ := hidP hQ
  obtain ⟨B, hB⟩ : ∃ B, B = w.heap.size := ⟨_, rfl⟩
  have HB := hidP hB
  have h4 := hidP hb4
  have h5 := hidP hb5
  have h6 := hidP hb6
  have h7 := hidP hb7
  have h8 := hidP hb8
  have h9 := hidP hb9
  have h10 := hidP hb10
  have HN := hidP (And.intro hn hl)
  obtain ⟨n, hnn⟩ : ∃ n, n = p.n := ⟨_, rfl⟩
  obtain ⟨l, hll⟩ : ∃ l, l = p.last := ⟨_, rfl⟩
  have r0 : Int.tmod (x0 : Int) 6 = ((n - 1 : Nat) : Int) := by
    rw [hnn, hn]
    have : 1 + x0 % 6 - 1 = x0 % 6 := by omega
    rw [this]; rfl
  have r1 : Int.tmod (x1 : Int) 6 = (l : Int) := by rw [hll, hl]; rfl
  have hn1 : 1 ≤ n := by rw [hnn]; exact hp.n1
  have hn6 : n ≤ 6 := by rw [hnn]; exact hp.n6
  have hl5 : l ≤ 5 := by rw [hll]; exact hp.l5
  have r2 : (1 : Int) + ((n - 1 : Nat) : Int) = (n : Int) := by omega
  have w0 : IntKind.i64.wrap (x0 : Int) = (x0 : Int) := by rw [IntKind.wrap_i64]; omega
  have w1 : IntKind.i64.wrap (x1 : Int) = (x1 : Int) := by rw [IntKind.wrap_i64]; omega
  have w2 : IntKind.i64.wrap ((n - 1 : Nat) : Int) = ((n - 1 : Nat) : Int) := by rw [IntKind.wrap_i64]; omega
  have w3 : IntKind.i64.wrap (n : Int) = (n : Int) := by rw [IntKind.wrap_i64]; omega
  have w4 : IntKind.i64.wrap (l : Int) = (l : Int) := by rw [IntKind.wrap_i64]; omega
  obtain ⟨nm, hnm⟩ : ∃ nm : Int, nm = ((n - 1 : Nat) : Int) := ⟨_, rfl⟩
  rw [← hnm] at r0 r2 w2
  have HNN := hidP (And.intro hnn hll)
  clear hQ hb4 hb5 hb6 hb7 hb8 hb9 hb10 hn hl hnn hll hnm hB
  have a0 : T[0]'(by omega) = _ := at_of _ t0
  have a1 : T[1]'(by omega) = _ := at_of _ t1
  have a2 : T[2]'(by omega) = _ := at_of _ t2
  have a3 : T[3]'(by omega) = _ := at_of _ t3
  have a4 : T[4]'(by omega) = _ := at_of _ t4
  have a5 : T[5]'(by omega) = _ := at_of _ t5
  have a6 : T[6]'(by omega) = _ := at_of _ t6
  have a7 : T[7]'(by omega) = _ := at_of _ t7
  have a8 : T[8]'(by omega) = _ := at_of _ t8
  have a9 : T[9]'(by omega) = _ := at_of _ t9
  have a10 : T[10]'(by omega) = _ := at_of _ t10
  obtain ⟨Z, hZ⟩ : ∃ Z : Array Value, Z = Array.replicate 294 (.bool false) := ⟨_, rfl⟩
  have z27 := zero27
  rw [← hZ] at z27
  have HZ := hidP hZ
  clear hZ
  go_upto_block 0 with fail
  refine gen_both (fun T2 w2 => T2.size = 735 ∧ T2[2]?.getD undef = v2 ∧ T2[3]?.getD undef = v3 ∧ T2[4]?.getD undef = v4 ∧ T2[5]?.getD undef = v5 ∧ T2[6]?.getD undef = v6 ∧ T2[7]?.getD undef = v7 ∧ T2[8]?.getD undef = v8 ∧ T2[9]?.getD undef = v9 ∧ T2[10]?.getD undef = v10 ∧ T2[23]?.getD undef = .int .i64 n ∧ T2[24]?.getD undef = .int .i64 l ∧ T2[25]?.getD undef = .pointer (some ⟨B, 0, none⟩) ∧ T2[26]?.getD undef = .pointer (some ⟨B + 1, 0, none⟩) ∧ T2[27]?.getD undef = .pointer (some ⟨B + 2, 0, none⟩) ∧ T2[28]?.getD undef = .pointer (some ⟨B + 3, 0, none⟩) ∧ T2[29]?.getD undef = .slice none 0 0 ∧ T2[30]?.getD undef = .int .i64 1 ∧ Row w2 B 23 7 (fun _ => .int .i64 0) ∧ Row w2 (B + 1) 24 7 (fun _ => .int .u8 0) ∧ Row w2 (B + 2) 23 7 (fun _ => .int .i64 0) ∧ Row w2 (B + 3) 27 294 (fun _ => .bool false) ∧ Only (fun b => B ≤ b) w w2) ⟨by simp [hT], by simp [hT, HB.out, a2, a3, a4, a5, a6, a7, a8, a9, a10], by simp [hT, HB.out, a2, a3, a4, a5, a6, a7, a8, a9, a10], by simp [hT, HB.out, a2, a3, a4, a5, a6, a7, a8, a9, a10], by simp [hT, HB.out, a2, a3, a4, a5, a6, a7, a8, a9, a10], by simp [hT, HB.out, a2, a3, a4, a5, a6, a7, a8, a9, a10], by simp [hT, HB.out, a2, a3, a4, a5, a6, a7, a8, a9, a10], by simp [hT, HB.out, a2, a3, a4, a5, a6, a7, a8, a9, a10], by simp [hT, HB.out, a2, a3, a4, a5, a6, a7, a8, a9, a10], by simp [hT, HB.out, a2, a3, a4, a5, a6, a7, a8, a9, a10], by simp [hT, HB.out, a2, a3, a4, a5, a6, a7, a8, a9, a10], by simp [hT, HB.out, a2, a3, a4, a5, a6, a7, a8, a9, a10], by simp [hT, HB.out, a2, a3, a4, a5, a6, a7, a8, a9, a10], by simp [hT, HB.out, a2, a3, a4, a5, a6, a7, a8, a9, a10], by simp [hT, HB.out, a2, a3, a4, a5, a6, a7, a8, a9, a10], by simp [hT, HB.out, a2, a3, a4, a5, a6, a7, a8, a9, a10], by simp [hT, HB.out, a2, a3, a4, a5, a6, a7, a8, a9, a10], by simp [hT, HB.out, a2, a3, a4, a5, a6, a7, a8, a9, a10], ?_, ?_, ?_, ?_, ?_⟩ ?_
  · rw [HB.out]
    refine ((((Row.new w [.int .i64 0, .int .i64 0, .int .i64 0, .int .i64 0, .int .i64 0, .int .i64 0, .int .i64 0] 23 (fun _ => .int .i64 0) ?_).alloc _).alloc _).alloc _)
    intro q hq
    simp at hq
    rcases (by omega : q = 0 ∨ q = 1 ∨ q = 2 ∨ q = 3 ∨ q = 4 ∨ q = 5 ∨ q = 6) with rfl | rfl | rfl | rfl | rfl | rfl | rfl <;> rfl
  · have e : B + 1 = (w.alloc (.cells #[.int .i64 0, .int .i64 0, .int .i64 0, .int .i64 0, .int .i64 0, .int .i64 0, .int .i64 0] 23)).heap.size := by rw [HB.out]; simp
    rw [e]
    refine (((Row.new _ [.int .u8 0, .int .u8 0, .int .u8 0, .int .u8 0, .int .u8 0, .int .u8 0, .int .u8 0] 24 (fun _ => .int .u8 0) ?_).alloc _).alloc _)
    intro q hq
    simp at hq
    rcases (by omega : q = 0 ∨ q = 1 ∨ q = 2 ∨ q = 3 ∨ q = 4 ∨ q = 5 ∨ q = 6) with rfl | rfl | rfl | rfl | rfl | rfl | rfl <;> rfl
  · have e : B + 2 = ((w.alloc (.cells #[.int .i64 0, .int .i64 0, .int .i64 0, .int .i64 0, .int .i64 0, .int .i64 0, .int .i64 0] 23)).alloc (.cells #[.int .u8 0, .int .u8 0, .int .u8 0, .int .u8 0, .int .u8 0, .int .u8 0, .int .u8 0] 24)).heap.size := by rw [HB.out]; simp
    rw [e]
    refine ((Row.new _ [.int .i64 0, .int .i64 0, .int .i64 0, .int .i64 0, .int .i64 0, .int .i64 0, .int .i64 0] 23 (fun _ => .int .i64 0) ?_).alloc _)
    intro q hq
    simp at hq
    rcases (by omega : q = 0 ∨ q = 1 ∨ q = 2 ∨ q = 3 ∨ q = 4 ∨ q = 5 ∨ q = 6) with rfl | rfl | rfl | rfl | rfl | rfl | rfl <;> rfl
  · rw [HZ.out]
    have := Row.rep (((w.alloc (.cells #[.int .i64 0, .int .i64 0, .int .i64 0, .int .i64 0, .int .i64 0, .int .i64 0, .int .i64 0] 23)).alloc (.cells #[.int .u8 0, .int .u8 0, .int .u8 0, .int .u8 0, .int .u8 0, .int .u8 0, .int .u8 0] 24)).alloc (.cells #[.int .i64 0, .int .i64 0, .int .i64 0, .int .i64 0, .int .i64 0, .int .i64 0, .int .i64 0] 23)) (.bool false) 27 294
    have e : B + 3 = (((w.alloc (.cells #[.int .i64 0, .int .i64 0, .int .i64 0, .int .i64 0, .int .i64 0, .int .i64 0, .int .i64 0] 23)).alloc (.cells #[.int .u8 0, .int .u8 0, .int .u8 0, .int .u8 0, .int .u8 0, .int .u8 0, .int .u8 0] 24)).alloc (.cells #[.int .i64 0, .int .i64 0, .int .i64 0, .int .i64 0, .int .i64 0, .int .i64 0, .int .i64 0] 23)).heap.size := by rw [HB.out]; simp
    rw [e]
    exact this
  · exact (((Only.refl.alloc _).alloc _).alloc _).alloc _
  clear a0 a1 a2 a3 a4 a5 a6 a7 a8 a9 a10 t0 t1 t2 t3 t4 t5 t6 t7 t8 t9 t10 hT z27 HZ w0 w1 w2 w3 w4 r0 r1 r2
  clear Z T
  rintro T2 w2 ⟨hT, s2, s3, s4, s5, s6, s7, s8, s9, s10, s23, s24, s25, s26, s27, s28, s29, s30, q1, q2, q3, q4, o2⟩
  rw [HNN.out.1] at s23
  rw [HNN.out.2] at s24
  have hBS : ∀ b, (B ≤ b) → w.heap.size ≤ b := fun b hb => by rw [← HB.out]; exact hb
  have bb : ∀ {v : Value} {l : Nat} {f : Nat → Nat}, BytesAt w w.heap.size v l f → BytesAt w2 B v l f := fun h => by have := h.only o2 hBS; rwa [← HB.out] at this
  refine f3_0 p hp B v4 v5 v6 w2 q1 q2 q3 (bb h4.out) (bb h5.out) (bb h6.out) T2 _ hT s4 s5 s6 s23 s24 s25 s26 s27 s29 s30 ?_
  rintro T3 w3 cv hK u29 ⟨p1, p2, p3, p4, p5, p6, p7, o3⟩
  have hT3 : T3.size = 735 := hK.1.trans hT
  have u2 := hK.get s2 (by decide) (by decide)
  have u3 := hK.get s3 (by decide) (by decide)
  have u4 := hK.get s4 (by decide) (by decide)
  have u5 := hK.get s5 (by decide) (by decide)
  have u6 := hK.get s6 (by decide) (by decide)
  have u7 := hK.get s7 (by decide) (by decide)
  have u8 := hK.get s8 (by decide) (by decide)
  have u9 := hK.get s9 (by decide) (by decide)
  have u10 := hK.get s10 (by decide) (by decide)
  have u23 := hK.get s23 (by decide) (by decide)
  have u24 := hK.get s24 (by decide) (by decide)
  have u25 := hK.get s25 (by decide) (by decide)
  have u26 := hK.get s26 (by decide) (by decide)
  have u27 := hK.get s27 (by decide) (by decide)
  have u28 := hK.get s28 (by decide) (by decide)
  have q4' := q4.onlyT o3 (by decide)
  have o3' : Only (fun b => B ≤ b) w w3 := o2.trans (o3.only (fun b h => h))
  clear hK q1 q2 q3 q4 o2 o3 bb hT s2 s3 s4 s5 s6 s7 s8 s9 s10 s23 s24 s25 s26 s27 s28 s29 s30 p5 p6 p7
  clear T2
  have p8 := q4'
  have o2 := o3'
  clear q4' o3'
  have HP := hidP (And.intro p1 (And.intro p2 (And.intro p3 (And.intro p4 p8))))
  have HO := hidP o2
  clear p1 p2 p3 p4 p8 o2
  have a2 : T3[2]'(by omega) = _ := at_of _ u2
  have a3 : T3[3]'(by omega) = _ := at_of _ u3
  have a4 : T3[4]'(by omega) = _ := at_of _ u4
  have a5 : T3[5]'(by omega) = _ := at_of _ u5
  have a6 : T3[6]'(by omega) = _ := at_of _ u6
  have a7 : T3[7]'(by omega) = _ := at_of _ u7
  have a8 : T3[8]'(by omega) = _ := at_of _ u8
  have a9 : T3[9]'(by omega) = _ := at_of _ u9
  have a10 : T3[10]'(by omega) = _ := at_of _ u10
  have a23 : T3[23]'(by omega) = _ := at_of _ u23
  have a24 : T3[24]'(by omega) = _ := at_of _ u24
  have a25 : T3[25]'(by omega) = _ := at_of _ u25
  have a26 : T3[26]'(by omega) = _ := at_of _ u26
  have a27 : T3[27]'(by omega) = _ := at_of _ u27
  have a28 : T3[28]'(by omega) = _ := at_of _ u28
  have a29 : T3[29]'(by omega) = _ := at_of _ u29
  go_upto_block 4 with fail
  refine gen_frame (fun T2 => T2.size = 735 ∧ T2[2]?.getD undef = v2 ∧ T2[3]?.getD undef = v3 ∧ T2[4]?.getD undef = v4 ∧ T2[5]?.getD undef = v5 ∧ T2[6]?.getD undef = v6 ∧ T2[7]?.getD undef = v7 ∧ T2[8]?.getD undef = v8 ∧ T2[9]?.getD undef = v9 ∧ T2[10]?.getD undef = v10 ∧ T2[23]?.getD undef = .int .i64 p.n ∧ T2[24]?.getD undef = .int .i64 p.last ∧ T2[25]?.getD undef = .pointer (some ⟨B, 0, none⟩) ∧ T2[26]?.getD undef = .pointer (some ⟨B + 1, 0, none⟩) ∧ T2[27]?.getD undef = .pointer (some ⟨B + 2, 0, none⟩) ∧ T2[28]?.getD undef = .pointer (some ⟨B + 3, 0, none⟩) ∧ T2[29]?.getD undef = cv ∧ T2[35]?.getD undef = .func (.func 8) #[] #[.pointer (some ⟨B, 0, none⟩)] ∧ T2[36]?.getD undef = .slice none 0 0 ∧ T2[37]?.getD undef = .int .i64 0) ⟨by simp [hT3], by simp [hT3, a2, a3, a4, a5, a6, a7, a8, a9, a10, a23, a24, a25, a26, a27, a28, a29], by simp [hT3, a2, a3, a4, a5, a6, a7, a8, a9, a10, a23, a24, a25, a26, a27, a28, a29], by simp [hT3, a2, a3, a4, a5, a6, a7, a8, a9, a10, a23, a24, a25, a26, a27, a28, a29], by simp [hT3, a2, a3, a4, a5, a6, a7, a8, a9, a10, a23, a24, a25, a26, a27, a28, a29], by simp [hT3, a2, a3, a4, a5, a6, a7, a8, a9, a10, a23, a24, a25, a26, a27, a28, a29], by simp [hT3, a2, a3, a4, a5, a6, a7, a8, a9, a10, a23, a24, a25, a26, a27, a28, a29], by simp [hT3, a2, a3, a4, a5, a6, a7, a8, a9, a10, a23, a24, a25, a26, a27, a28, a29], by simp [hT3, a2, a3, a4, a5, a6, a7, a8, a9, a10, a23, a24, a25, a26, a27, a28, a29], by simp [hT3, a2, a3, a4, a5, a6, a7, a8, a9, a10, a23, a24, a25, a26, a27, a28, a29], by simp [hT3, a2, a3, a4, a5, a6, a7, a8, a9, a10, a23, a24, a25, a26, a27, a28, a29], by simp [hT3, a2, a3, a4, a5, a6, a7, a8, a9, a10, a23, a24, a25, a26, a27, a28, a29], by simp [hT3, a2, a3, a4, a5, a6, a7, a8, a9, a10, a23, a24, a25, a26, a27, a28, a29], by simp [hT3, a2, a3, a4, a5, a6, a7, a8, a9, a10, a23, a24, a25, a26, a27, a28, a29], by simp [hT3, a2, a3, a4, a5, a6, a7, a8, a9, a10, a23, a24, a25, a26, a27, a28, a29], by simp [hT3, a2, a3, a4, a5, a6, a7, a8, a9, a10, a23, a24, a25, a26, a27, a28, a29], by simp [hT3, a2, a3, a4, a5, a6, a7, a8, a9, a10, a23, a24, a25, a26, a27, a28, a29], by simp [hT3, a2, a3, a4, a5, a6, a7, a8, a9, a10, a23, a24, a25, a26, a27, a28, a29], by simp [hT3, a2, a3, a4, a5, a6, a7, a8, a9, a10, a23, a24, a25, a26, a27, a28, a29], by simp [hT3, a2, a3, a4, a5, a6, a7, a8, a9, a10, a23, a24, a25, a26, a27, a28, a29]⟩ ?_
  clear a2 a3 a4 a5 a6 a7 a8 a9 a10 a23 a24 a25 a26 a27 a28 a29 u2 u3 u4 u5 u6 u7 u8 u9 u10 u23 u24 u25 u26 u27 u28 u29 hT3
  clear T3
  rintro T2 ⟨hT, s2, s3, s4, s5, s6, s7, s8, s9, s10, s23, s24, s25, s26, s27, s28, s29, s35, s36, s37⟩
  have bb : ∀ {v : Value} {l : Nat} {f : Nat → Nat}, BytesAt w w.heap.size v l f → BytesAt w3 B v l f := fun h => by have := h.only HO.out hBS; rwa [← HB.out] at this
  refine f3_4 p hp B v7 v8 v9 w3 HP.out.2.2.2.2 (bb h7.out) (bb h8.out) (bb h9.out) T2 _ hT s7 s8 s9 s23 s24 s28 s36 s37 ?_
  rintro T4 w4 ov hK u36 ⟨p1, p2, p3, p4, p5, o4⟩
  have hT4 : T4.size = 735 := hK.1.trans hT
  have u2 := hK.get s2 (by decide) (by decide)
  have u3 := hK.get s3 (by decide) (by decide)
  have u4 := hK.get s4 (by decide) (by decide)
  have u5 := hK.get s5 (by decide) (by decide)
  have u6 := hK.get s6 (by decide) (by decide)
  have u7 := hK.get s7 (by decide) (by decide)
  have u8 := hK.get s8 (by decide) (by decide)
  have u9 := hK.get s9 (by decide) (by decide)
  have u10 := hK.get s10 (by decide) (by decide)
  have u23 := hK.get s23 (by decide) (by decide)
  have u24 := hK.get s24 (by decide) (by decide)
  have u25 := hK.get s25 (by decide) (by decide)
  have u26 := hK.get s26 (by decide) (by decide)
  have u27 := hK.get s27 (by decide) (by decide)
  have u28 := hK.get s28 (by decide) (by decide)
  have u29 := hK.get s29 (by decide) (by decide)
  have u35 := hK.get s35 (by decide) (by decide)
  obtain ⟨c1, c2, c3, c4, c5⟩ := HP.out
  have d1 := c1.onlyT o4 (by decide)
  have d2 := c2.onlyT o4 (by decide)
  have d3 := c3.onlyT o4 (by decide)
  have d4 := c4.onlyT o4 (by decide) (by decide)
  have HP2 := hidP (And.intro d1 (And.intro d2 (And.intro d3 (And.intro d4 (And.intro p1 p2)))))
  have HO2 := hidP (HO.out.trans (o4.only (fun b h => h)))
  clear hK c1 c2 c3 c4 c5 d1 d2 d3 d4 p1 p2 p3 p4 p5 o4 HP HO bb hT s2 s3 s4 s5 s6 s7 s8 s9 s10 s23 s24 s25 s26 s27 s28 s29 s35 s36 s37
  clear T2
  have a2 : T4[2]'(by omega) = _ := at_of _ u2
  have a3 : T4[3]'(by omega) = _ := at_of _ u3
  have a4 : T4[4]'(by omega) = _ := at_of _ u4
  have a5 : T4[5]'(by omega) = _ := at_of _ u5
  have a6 : T4[6]'(by omega) = _ := at_of _ u6
  have a7 : T4[7]'(by omega) = _ := at_of _ u7
  have a8 : T4[8]'(by omega) = _ := at_of _ u8
  have a9 : T4[9]'(by omega) = _ := at_of _ u9
  have a10 : T4[10]'(by omega) = _ := at_of _ u10
  have a23 : T4[23]'(by omega) = _ := at_of _ u23
  have a24 : T4[24]'(by omega) = _ := at_of _ u24
  have a25 : T4[25]'(by omega) = _ := at_of _ u25
  have a26 : T4[26]'(by omega) = _ := at_of _ u26
  have a27 : T4[27]'(by omega) = _ := at_of _ u27
  have a28 : T4[28]'(by omega) = _ := at_of _ u28
  have a29 : T4[29]'(by omega) = _ := at_of _ u29
  have a35 : T4[35]'(by omega) = _ := at_of _ u35
  have a36 : T4[36]'(by omega) = _ := at_of _ u36
  go_upto_block 8 with fail
  rename_i K hKK
  have HKK := hidP hKK
  clear hKK
  refine gen_frame (fun T2 => T2.size = 735 ∧ T2[2]?.getD undef = v2 ∧ T2[3]?.getD undef = v3 ∧ T2[4]?.getD undef = v4 ∧ T2[5]?.getD undef = v5 ∧ T2[6]?.getD undef = v6 ∧ T2[7]?.getD undef = v7 ∧ T2[8]?.getD undef = v8 ∧ T2[9]?.getD undef = v9 ∧ T2[10]?.getD undef = v10 ∧ T2[23]?.getD undef = .int .i64 p.n ∧ T2[24]?.getD undef = .int .i64 p.last ∧ T2[25]?.getD undef = .pointer (some ⟨B, 0, none⟩) ∧ T2[26]?.getD undef = .pointer (some ⟨B + 1, 0, none⟩) ∧ T2[27]?.getD undef = .pointer (some ⟨B + 2, 0, none⟩) ∧ T2[28]?.getD undef = .pointer (some ⟨B + 3, 0, none⟩) ∧ T2[29]?.getD undef = cv ∧ T2[35]?.getD undef = .func (.func 8) #[] #[.pointer (some ⟨B, 0, none⟩)] ∧ T2[36]?.getD undef = ov ∧ T2[43]?.getD undef = .slice none 0 0 ∧ T2[44]?.getD undef = .int .i64 0) ⟨by simp [hT4], by simp [hT4, a2, a3, a4, a5, a6, a7, a8, a9, a10, a23, a24, a25, a26, a27, a28, a29, a35, a36], by simp [hT4, a2, a3, a4, a5, a6, a7, a8, a9, a10, a23, a24, a25, a26, a27, a28, a29, a35, a36], by simp [hT4, a2, a3, a4, a5, a6, a7, a8, a9, a10, a23, a24, a25, a26, a27, a28, a29, a35, a36], by simp [hT4, a2, a3, a4, a5, a6, a7, a8, a9, a10, a23, a24, a25, a26, a27, a28, a29, a35, a36], by simp [hT4, a2, a3, a4, a5, a6, a7, a8, a9, a10, a23, a24, a25, a26, a27, a28, a29, a35, a36], by simp [hT4, a2, a3, a4, a5, a6, a7, a8, a9, a10, a23, a24, a25, a26, a27, a28, a29, a35, a36], by simp [hT4, a2, a3, a4, a5, a6, a7, a8, a9, a10, a23, a24, a25, a26, a27, a28, a29, a35, a36], by simp [hT4, a2, a3, a4, a5, a6, a7, a8, a9, a10, a23, a24, a25, a26, a27, a28, a29, a35, a36], by simp [hT4, a2, a3, a4, a5, a6, a7, a8, a9, a10, a23, a24, a25, a26, a27, a28, a29, a35, a36], by simp [hT4, a2, a3, a4, a5, a6, a7, a8, a9, a10, a23, a24, a25, a26, a27, a28, a29, a35, a36], by simp [hT4, a2, a3, a4, a5, a6, a7, a8, a9, a10, a23, a24, a25, a26, a27, a28, a29, a35, a36], by simp [hT4, a2, a3, a4, a5, a6, a7, a8, a9, a10, a23, a24, a25, a26, a27, a28, a29, a35, a36], by simp [hT4, a2, a3, a4, a5, a6, a7, a8, a9, a10, a23, a24, a25, a26, a27, a28, a29, a35, a36], by simp [hT4, a2, a3, a4, a5, a6, a7, a8, a9, a10, a23, a24, a25, a26, a27, a28, a29, a35, a36], by simp [hT4, a2, a3, a4, a5, a6, a7, a8, a9, a10, a23, a24, a25, a26, a27, a28, a29, a35, a36], by simp [hT4, a2, a3, a4, a5, a6, a7, a8, a9, a10, a23, a24, a25, a26, a27, a28, a29, a35, a36], by simp [hT4, a2, a3, a4, a5, a6, a7, a8, a9, a10, a23, a24, a25, a26, a27, a28, a29, a35, a36], by simp [hT4, a2, a3, a4, a5, a6, a7, a8, a9, a10, a23, a24, a25, a26, a27, a28, a29, a35, a36], by simp [hT4, a2, a3, a4, a5, a6, a7, a8, a9, a10, a23, a24, a25, a26, a27, a28, a29, a35, a36], by simp [hT4, a2, a3, a4, a5, a6, a7, a8, a9, a10, a23, a24, a25, a26, a27, a28, a29, a35, a36]⟩ ?_
  clear a2 a3 a4 a5 a6 a7 a8 a9 a10 a23 a24 a25 a26 a27 a28 a29 a35 a36 u2 u3 u4 u5 u6 u7 u8 u9 u10 u23 u24 u25 u26 u27 u28 u29 u35 u36 hT4
  clear T4
  rintro T2 ⟨hT, s2, s3, s4, s5, s6, s7, s8, s9, s10, s23, s24, s25, s26, s27, s28, s29, s35, s36, s43, s44⟩
  have bb : ∀ {v : Value} {l : Nat} {f : Nat → Nat}, BytesAt w w.heap.size v l f → BytesAt w4 B v l f := fun h => by have := h.only HO2.out hBS; rwa [← HB.out] at this
  have hBw : B ≤ w4.heap.size := by rw [HB.out]; exact HO2.out.size
  refine f3_8 p hp B v10 w4 hBw HP2.out.1 (bb h10.out) T2 _ hT s10 s23 s24 s35 s43 s44 ?_
  intro T5 w5 ev hK u43 p1 o5
  have hT5 : T5.size = 735 := hK.1.trans hT
  have u2 := hK.get s2 (by decide) (by decide)
  have u3 := hK.get s3 (by decide) (by decide)
  have u4 := hK.get s4 (by decide) (by decide)
  have u5 := hK.get s5 (by decide) (by decide)
  have u6 := hK.get s6 (by decide) (by decide)
  have u7 := hK.get s7 (by decide) (by decide)
  have u8 := hK.get s8 (by decide) (by decide)
  have u9 := hK.get s9 (by decide) (by decide)
  have u10 := hK.get s10 (by decide) (by decide)
  have u23 := hK.get s23 (by decide) (by decide)
  have u24 := hK.get s24 (by decide) (by decide)
  have u25 := hK.get s25 (by decide) (by decide)
  have u26 := hK.get s26 (by decide) (by decide)
  have u27 := hK.get s27 (by decide) (by decide)
  have u28 := hK.get s28 (by decide) (by decide)
  have u29 := hK.get s29 (by decide) (by decide)
  have u35 := hK.get s35 (by decide) (by decide)
  have u36 := hK.get s36 (by decide) (by decide)
  obtain ⟨c1, c2, c3, c4, c5, c6⟩ := HP2.out
  have hbs := HB.out
  subst hbs
  refine HKK.out _ _ ?_
  exact HQ.out T5 w5 cv ov ev hT5 u2 u3 u23 u24 u25 u26 u27 u28 u29 u35 u36 u43 ⟨c1.onlyT o5 (by decide), c2.onlyT o5 (by decide), c3.onlyT o5 (by decide), c5.onlyT o5 (by decide), c4.onlyT o5 (by decide) (by decide), c6.onlyT o5 (by decide) (by decide), p1⟩ (HO2.out.trans (o5.only (fun b h => h)))
end Go.Proofs.Ybulkcawy
