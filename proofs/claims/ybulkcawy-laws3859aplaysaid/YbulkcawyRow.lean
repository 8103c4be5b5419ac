/-
  A BLOCK OF CELLS, TOLD BY A FUNCTION: 'Row w g t n m': block g of w has n cells of type t, none frozen; cell q holds m q.
-/
import Derived.WalkKit
import Derived.WalkSpells
import Derived.WalkLawsBesides
import Derived.Deep.OwnRows
namespace Go.Proofs.Ybulkcawy
open Go.RowKit

def Row (w : World) (g : Nat) (t : TypeId) (n : Nat) (m : Nat → Value) : Prop :=
  ∃ cur : Array Value, w.heap[g]? = some (.cells cur t (0, 0)) ∧ cur.size = n ∧ ∀ q, q < n → cur[q]? = some (m q)

section
variable {w w' : World} {g : Nat} {t : TypeId} {n : Nat} {m : Nat → Value}

theorem Row.lt (h : Row w g t n m) : g < w.heap.size := by
  obtain ⟨cur, h1, _⟩ := h
  exact (Array.getElem?_eq_some_iff.1 h1).1
theorem Row.cell (h : Row w g t n m) (q : Nat) (hq : q < n) : w.cell? ⟨g, q, none⟩ = some (m q) := by
  obtain ⟨cur, h1, h2, h3⟩ := h
  simp [World.cell?, h1, h3 q hq]
theorem Row.frozen (h : Row w g t n m) (q : Nat) : w.frozen? ⟨g, q, none⟩ = false := by
  obtain ⟨cur, h1, h2, h3⟩ := h
  simp [World.frozen?, h1]
theorem Row.of_block (h : Row w g t n m) (e : w'.heap[g]? = w.heap[g]?) : Row w' g t n m := by
  obtain ⟨cur, h1, h2, h3⟩ := h
  exact ⟨cur, e.trans h1, h2, h3⟩
theorem Row.alloc (h : Row w g t n m) (o : Obj) : Row (w.alloc o) g t n m := h.of_block (heap_alloc_old _ _ h.lt)
theorem Row.drew (h : Row w g t n m) : Row w.drew g t n m := h.of_block rfl
theorem Row.drewN (h : Row w g t n m) (k : Nat) : Row (w.drewN k) g t n m := h.of_block rfl
theorem Row.below {B : Nat} (h : Row w g t n m) (hb : Below B w w') (hg : g < B) : Row w' g t n m := h.of_block (hb.block g hg)
theorem Row.grown {row : Option Nat} (h : Row w g t n m) (hb : w.grownBy w' row) (hg : some g ≠ row) : Row w' g t n m := h.of_block (hb.block g h.lt hg)
theorem Row.far (h : Row w g t n m) (p : Addr) (u : Value) (hp : g ≠ p.block) : Row (w.setCell p u) g t n m := h.of_block (Below.heap_setCell _ _ _ _ hp)
theorem Row.set (h : Row w g t n m) (q : Nat) (u : Value) : Row (w.setCell ⟨g, q, none⟩ u) g t n (fun j => if j = q then u else m j) := by
  obtain ⟨cur, h1, h2, h3⟩ := h
  refine ⟨cur.setIfInBounds q u, by simp [World.setCell, Array.getElem?_modify, h1], by simpa using h2, fun j hj => ?_⟩
  rw [Array.getElem?_setIfInBounds]
  by_cases hjq : j = q
  · subst hjq
    simp [h2, hj]
  · simp [hjq, Ne.symm hjq, h3 j hj]
theorem Row.ext {m' : Nat → Value} (h : Row w g t n m) (e : ∀ q, q < n → m q = m' q) : Row w g t n m' := by
  obtain ⟨cur, h1, h2, h3⟩ := h
  exact ⟨cur, h1, h2, fun q hq => (h3 q hq).trans (by rw [e q hq])⟩
theorem Row.made (w : World) (z : Value) (t : TypeId) (n : Nat) : Row (w.alloc (.cells (madeCells #[z] n) t)) w.heap.size t n (fun _ => z) := by
  refine ⟨madeCells #[z] n, heap_alloc_new _ _, by simp [madeCells], fun q hq => ?_⟩
  have := toList_madeCells_one z n
  rw [← Array.getElem?_toList, this]
  simp [hq]
theorem Row.anyNew (w : World) (c : Array Value) (t : TypeId) {n : Nat} (hn : c.size = n) : Row (w.alloc (.cells c t)) w.heap.size t n (fun q => c.getD q undef) :=
  ⟨c, heap_alloc_new _ _, hn, fun q hq => by simp [Array.getD, hn, hq]⟩
theorem Row.new (w : World) (cs : List Value) (t : TypeId) (m : Nat → Value) (hm : ∀ q, q < cs.length → cs[q]? = some (m q)) : Row (w.alloc (.cells cs.toArray t)) w.heap.size t cs.length m :=
  ⟨cs.toArray, heap_alloc_new _ _, by simp, fun q hq => by simpa using hm q hq⟩
end

/-- A slice that the call owns, as a row: its first n cells. -/
theorem own_cell {w : World} {base : Nat} {e : TypeId} {g n cap : Nat} {xs : List Value} (h : w.ownsRow base e 1 (.slice (some ⟨g, 0, none⟩) n cap) n xs) (q : Nat) (hq : q < n) : w.cell? ⟨g, q, none⟩ = xs[q]? :=
  h.cellAt q (by omega)
theorem own_shape {w : World} {base : Nat} {e : TypeId} {v : Value} {n : Nat} {xs : List Value} (h : w.ownsRow base e 1 v n xs) : (v = .slice none 0 0 ∧ n = 0) ∨ ∃ g cp, v = .slice (some ⟨g, 0, none⟩) n cp ∧ base ≤ g ∧ g < w.heap.size := by
  rcases h.2 with ⟨rfl, rfl⟩ | ⟨g, cap, cur, rfl, hb, hg, _⟩
  · exact Or.inl ⟨rfl, rfl⟩
  · exact Or.inr ⟨g, cap, rfl, hb, (Array.getElem?_eq_some_iff.1 hg).1⟩
theorem own_below {w w' : World} {base B : Nat} {e : TypeId} {size : Nat} {v : Value} {n : Nat} {xs : List Value} (h : w.ownsRow base e size v n xs) (hb : Below B w w') (hB : ∀ g, v.ownBlock = some g → g < B) : w'.ownsRow base e size v n xs := by
  refine ⟨h.1, ?_⟩
  rcases h.2 with hn | ⟨g, cap, cur, rfl, hbs, hgg, rest⟩
  · exact .inl hn
  · exact .inr ⟨g, cap, cur, rfl, hbs, (hb.block g (hB g rfl)).trans hgg, rest⟩
end Go.Proofs.Ybulkcawy
