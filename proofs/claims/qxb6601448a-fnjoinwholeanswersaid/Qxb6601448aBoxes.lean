/- Boxes: a struct variable in a block of its own. -/
import Derived.Test.Qxb6601448aToNews
import Derived.Test.Qxb6601448aSizes
namespace Go.Proofs.Qxb6601448a
open Go.RowKit
set_option linter.unusedVariables false

/-- Block b is a variable of a ZNews. -/
def Bx (w : World) (b : Nat) (c0 c1 c2 c3 c4 c5 : Value) : Prop := w.heap[b]? = some (.cells #[c0, c1, c2, c3, c4, c5] 27 (0, 0))

theorem Bx.new (w : World) (c0 c1 c2 c3 c4 c5 : Value) : Bx (w.alloc (.cells #[c0, c1, c2, c3, c4, c5] 27)) w.heap.size c0 c1 c2 c3 c4 c5 := heap_alloc_new w _

theorem Bx.alloc {w : World} {b : Nat} {c0 c1 c2 c3 c4 c5 : Value} (h : Bx w b c0 c1 c2 c3 c4 c5) (o : Obj) : Bx (w.alloc o) b c0 c1 c2 c3 c4 c5 :=
  (Below.heap_alloc _ _ _ (Array.getElem?_eq_some_iff.1 h).1).trans h

theorem Bx.lt {w : World} {b : Nat} {c0 c1 c2 c3 c4 c5 : Value} (h : Bx w b c0 c1 c2 c3 c4 c5) : b < w.heap.size := (Array.getElem?_eq_some_iff.1 h).1

theorem Bx.below {B : Nat} {w w' : World} {b : Nat} {c0 c1 c2 c3 c4 c5 : Value} (h : Bx w b c0 c1 c2 c3 c4 c5) (hb : Below B w w') (hB : b < B) : Bx w' b c0 c1 c2 c3 c4 c5 := (hb.block b hB).trans h

theorem Bx.cells {w : World} {b : Nat} {c0 c1 c2 c3 c4 c5 : Value} (h : Bx w b c0 c1 c2 c3 c4 c5) :
    w.cell? ⟨b, 0, none⟩ = some c0 ∧ w.cell? ⟨b, 1, none⟩ = some c1 ∧ w.cell? ⟨b, 2, none⟩ = some c2 ∧ w.cell? ⟨b, 3, none⟩ = some c3 ∧ w.cell? ⟨b, 4, none⟩ = some c4 ∧ w.cell? ⟨b, 5, none⟩ = some c5 := by
  have e : ∀ j, w.cell? ⟨b, j, none⟩ = #[c0, c1, c2, c3, c4, c5][j]? := fun j => cell_of_row w b j _ 27 (0, 0) h
  exact ⟨e 0, e 1, e 2, e 3, e 4, e 5⟩

theorem Bx.free {w : World} {b : Nat} {c0 c1 c2 c3 c4 c5 : Value} (h : Bx w b c0 c1 c2 c3 c4 c5) :
    w.frozen? ⟨b, 0, none⟩ = false ∧ w.frozen? ⟨b, 1, none⟩ = false ∧ w.frozen? ⟨b, 2, none⟩ = false ∧ w.frozen? ⟨b, 3, none⟩ = false ∧ w.frozen? ⟨b, 4, none⟩ = false ∧ w.frozen? ⟨b, 5, none⟩ = false := by
  have e : ∀ j, w.frozen? ⟨b, j, none⟩ = false := fun j => frozen_of_row w b j _ 27 h
  exact ⟨e 0, e 1, e 2, e 3, e 4, e 5⟩

/-- A whole ZNews stored over one. -/
abbrev six (w : World) (b : Nat) (x0 x1 x2 x3 x4 x5 : Value) : World := (((((w.setCell ⟨b, 0, none⟩ x0).setCell ⟨b, 1, none⟩ x1).setCell ⟨b, 2, none⟩ x2).setCell ⟨b, 3, none⟩ x3).setCell ⟨b, 4, none⟩ x4).setCell ⟨b, 5, none⟩ x5

theorem six_other (w : World) (b k : Nat) (x0 x1 x2 x3 x4 x5 : Value) (h : k ≠ b) : (six w b x0 x1 x2 x3 x4 x5).heap[k]? = w.heap[k]? := by
  simp only [six]
  rw [Below.heap_setCell _ _ _ _ h, Below.heap_setCell _ _ _ _ h, Below.heap_setCell _ _ _ _ h, Below.heap_setCell _ _ _ _ h, Below.heap_setCell _ _ _ _ h, Below.heap_setCell _ _ _ _ h]

theorem six_size (w : World) (b : Nat) (x0 x1 x2 x3 x4 x5 : Value) : (six w b x0 x1 x2 x3 x4 x5).heap.size = w.heap.size := by simp [six]

theorem six_same {w : World} {b : Nat} {c0 c1 c2 c3 c4 c5 : Value} (h : Bx w b c0 c1 c2 c3 c4 c5) (x0 x1 x2 x3 x4 x5 : Value) : Bx (six w b x0 x1 x2 x3 x4 x5) b x0 x1 x2 x3 x4 x5 := by
  have h0 := heap_setCell_same w b 0 _ 27 x0 h
  have h1 := heap_setCell_same _ b 1 _ 27 x1 h0
  have h2 := heap_setCell_same _ b 2 _ 27 x2 h1
  have h3 := heap_setCell_same _ b 3 _ 27 x3 h2
  have h4 := heap_setCell_same _ b 4 _ 27 x4 h3
  have h5 := heap_setCell_same _ b 5 _ 27 x5 h4
  show (six w b x0 x1 x2 x3 x4 x5).heap[b]? = _
  simpa using h5

theorem six_below {B b : Nat} {a w : World} (h : Below B a w) (hb : B ≤ b) (x0 x1 x2 x3 x4 x5 : Value) : Below B a (six w b x0 x1 x2 x3 x4 x5) :=
  ((((((h.setCell hb _).setCell hb _).setCell hb _).setCell hb _).setCell hb _).setCell hb _)

/-- Block b is a variable of a News. -/
def Nx (w : World) (b : Nat) (c0 c1 c2 : Value) : Prop := w.heap[b]? = some (.cells #[c0, c1, c2] 36 (0, 0))
theorem Nx.new (w : World) (c0 c1 c2 : Value) : Nx (w.alloc (.cells #[c0, c1, c2] 36)) w.heap.size c0 c1 c2 := heap_alloc_new w _
theorem Nx.alloc {w : World} {b : Nat} {c0 c1 c2 : Value} (h : Nx w b c0 c1 c2) (o : Obj) : Nx (w.alloc o) b c0 c1 c2 := (Below.heap_alloc _ _ _ (Array.getElem?_eq_some_iff.1 h).1).trans h
theorem Nx.lt {w : World} {b : Nat} {c0 c1 c2 : Value} (h : Nx w b c0 c1 c2) : b < w.heap.size := (Array.getElem?_eq_some_iff.1 h).1
theorem Nx.below {B : Nat} {w w' : World} {b : Nat} {c0 c1 c2 : Value} (h : Nx w b c0 c1 c2) (hb : Below B w w') (hB : b < B) : Nx w' b c0 c1 c2 := (hb.block b hB).trans h
theorem Nx.cells {w : World} {b : Nat} {c0 c1 c2 : Value} (h : Nx w b c0 c1 c2) : w.cell? ⟨b, 0, none⟩ = some c0 ∧ w.cell? ⟨b, 1, none⟩ = some c1 ∧ w.cell? ⟨b, 2, none⟩ = some c2 := by
  have e : ∀ j, w.cell? ⟨b, j, none⟩ = #[c0, c1, c2][j]? := fun j => cell_of_row w b j _ 36 (0, 0) h
  exact ⟨e 0, e 1, e 2⟩

/-- copyNews, the slices' shapes written out. -/
theorem copyNews_sh (r : Int) (c1 c2 c3 c4 c5 : Value) (n : News) (w : World) {lo hi : Nat} (h : NewsAt lo hi w c1 c2 c3 c4 c5 n) (hh : hi ≤ w.heap.size) :
    Calls Try.prog 12 #[.agg #[.int .u64 r, c1, c2, c3, c4, c5]] w fun e w' => ∃ x1 p1 x2 p2 x3 p3 x4 p4 x5 p5, e = .returned (.agg #[.int .u64 r, .slice x1 n.mn.length p1, .slice x2 n.ms.length p2, .slice x3 n.mp.length p3, .slice x4 n.fn.length p4, .slice x5 n.fv.length p5]) ∧
      NewsAt w.heap.size w'.heap.size w' (.slice x1 n.mn.length p1) (.slice x2 n.ms.length p2) (.slice x3 n.mp.length p3) (.slice x4 n.fn.length p4) (.slice x5 n.fv.length p5) n ∧ Below w.heap.size w w' :=
  (copyNews_any r c1 c2 c3 c4 c5 n w h hh).mono (by
    rintro e w' ⟨d1, d2, d3, d4, d5, rfl, h1, h2⟩
    obtain ⟨x1, p1, rfl⟩ := h1.1.shape
    obtain ⟨x2, p2, rfl⟩ := h1.2.1.shape
    obtain ⟨x3, p3, rfl⟩ := h1.2.2.1.shape
    obtain ⟨x4, p4, rfl⟩ := h1.2.2.2.1.shape
    obtain ⟨x5, p5, rfl⟩ := h1.2.2.2.2.shape
    exact ⟨x1, p1, x2, p2, x3, p3, x4, p4, x5, p5, rfl, h1, h2⟩)

/-- toNews on a ZNews in memory. -/
theorem toNews_at (r : Int) (c1 c2 c3 c4 c5 : Value) (force : Bool) (n : News) (w : World) {lo hi : Nat} (h : NewsAt lo hi w c1 c2 c3 c4 c5 n) (hh : hi ≤ w.heap.size) :
    Calls Try.prog 13 #[.agg #[.int .u64 r, c1, c2, c3, c4, c5], .bool force] w fun e w' => ∃ m1 m2 vs, RowAt 24 lo hi w c3 vs ∧ StrsEach lo hi w vs n.mp ∧ e = .returned (.agg #[.int .u64 r, .map m1, .map m2]) ∧ MapIs mkR w.heap.size w'.heap.size w' m1 n.mn.length (mapOf (marks n.mn n.ms vs)) ∧ MapIs fiR w.heap.size w'.heap.size w' m2 n.fn.length (mapOf (fins n.fn n.fv)) ∧ (force = true → m1 ≠ none ∧ m2 ≠ none) ∧ Below w.heap.size w w' := by
  obtain ⟨g1, g2, ⟨vs, g3, g3s⟩, g4, g5⟩ := h
  refine (toNews_any r c1 c2 c3 c4 c5 force n.mn n.ms vs n.fn n.fv w g1 g2 g3 (fun i hi => ?_) g4 g5 hh).mono ?_
  · obtain ⟨ao, cap, e⟩ := (g3s.2 i hi).shape
    exact ⟨ao, _, cap, e⟩
  · rintro e w' ⟨m1, m2, rfl, h1, h2, h3, h4⟩
    exact ⟨m1, m2, vs, g3, g3s, rfl, h1, h2, h3, h4⟩

end Go.Proofs.Qxb6601448a
