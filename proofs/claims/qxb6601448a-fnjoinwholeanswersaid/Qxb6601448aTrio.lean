/- The boxes of Join's laws. -/
import Derived.Test.Qxb6601448aPre
import Derived.Test.Qxb6601448aCopies
import Derived.Test.Qxb6601448aJoin2
import Derived.Test.Qxb6601448aZz37
namespace Go.Proofs.Qxb6601448a
open Go.RowKit
open Go.Maps (has IsMap)
set_option linter.unusedVariables false

/-- Block b is a variable of type t with the cells cs. -/
def Bk (w : World) (b : Nat) (cs : Array Value) (t : TypeId) : Prop := w.heap[b]? = some (.cells cs t (0, 0))

theorem Bk.new (w : World) (cs : Array Value) (t : TypeId) : Bk (w.alloc (.cells cs t)) w.heap.size cs t := heap_alloc_new w _
theorem Bk.lt {w : World} {b : Nat} {cs : Array Value} {t : TypeId} (h : Bk w b cs t) : b < w.heap.size := (Array.getElem?_eq_some_iff.1 h).1
theorem Bk.alloc {w : World} {b : Nat} {cs : Array Value} {t : TypeId} (h : Bk w b cs t) (o : Obj) : Bk (w.alloc o) b cs t := (Below.heap_alloc _ _ _ h.lt).trans h
theorem Bk.below {B : Nat} {w w' : World} {b : Nat} {cs : Array Value} {t : TypeId} (h : Bk w b cs t) (hb : Below B w w') (hB : b < B) : Bk w' b cs t := (hb.block b hB).trans h
theorem Bk.grown {w w' : World} {b : Nat} {cs : Array Value} {t : TypeId} {row : Option Nat} (h : Bk w b cs t) (hg : w.grownBy w' row) (hne : some b ≠ row) : Bk w' b cs t := (hg.block b h.lt hne).trans h
theorem Bk.cell {w : World} {b : Nat} {cs : Array Value} {t : TypeId} (h : Bk w b cs t) (j : Nat) : w.cell? ⟨b, j, none⟩ = cs[j]? := cell_of_row w b j _ t (0, 0) h
theorem Bk.free {w : World} {b : Nat} {cs : Array Value} {t : TypeId} (h : Bk w b cs t) (j : Nat) : w.frozen? ⟨b, j, none⟩ = false := frozen_of_row w b j _ t h
theorem Bk.set {w : World} {b : Nat} {cs : Array Value} {t : TypeId} (h : Bk w b cs t) (j : Nat) (v : Value) : Bk (w.setCell ⟨b, j, none⟩ v) b (cs.setIfInBounds j v) t := heap_setCell_same w b j cs t v h
theorem Bk.other {w : World} {b : Nat} {cs : Array Value} {t : TypeId} (h : Bk w b cs t) (a : Addr) (ha : b ≠ a.block) (v : Value) : Bk (w.setCell a v) b cs t := (Below.heap_setCell _ _ _ _ ha).trans h

/-- The three boxes. -/
structure Trio (w w' : World) (r s sv : Int) (sn nm : ByteArray) (a1 a2 a3 a4 a5 b1 b2 b3 b4 b5 vp ve : Value) : Prop where
  x : Bk w' w.heap.size #[.int .u64 r, a1, a2, a3, a4, a5, .string sn, .int .u64 sv] 40
  y : Bk w' (w.heap.size + 1) #[.int .u64 s, b1, b2, b3, b4, b5] 27
  z : Bk w' (w.heap.size + 2) #[.string nm, vp, ve] 42
  below : Below w.heap.size w w'

theorem Trio.start (w : World) (r s sv : Int) (sn nm : ByteArray) (a1 a2 a3 a4 a5 b1 b2 b3 b4 b5 vp ve : Value) : Trio w (((w.alloc (.cells #[.int .u64 r, a1, a2, a3, a4, a5, .string sn, .int .u64 sv] 40)).alloc (.cells #[.int .u64 s, b1, b2, b3, b4, b5] 27)).alloc (.cells #[.string nm, vp, ve] 42)) r s sv sn nm a1 a2 a3 a4 a5 b1 b2 b3 b4 b5 vp ve := by
  refine ⟨((Bk.new w _ _).alloc _).alloc _, ?_, ?_, (((Below.refl _ w).alloc (Nat.le_refl _) _).alloc (by simp) _).alloc (by simp; omega) _⟩
  · have := (Bk.new (w.alloc (.cells #[.int .u64 r, a1, a2, a3, a4, a5, .string sn, .int .u64 sv] 40)) #[.int .u64 s, b1, b2, b3, b4, b5] 27).alloc (.cells #[.string nm, vp, ve] 42)
    simpa using this
  · have := Bk.new ((w.alloc (.cells #[.int .u64 r, a1, a2, a3, a4, a5, .string sn, .int .u64 sv] 40)).alloc (.cells #[.int .u64 s, b1, b2, b3, b4, b5] 27)) #[.string nm, vp, ve] 42
    simpa using this

theorem Trio.size {w w' : World} {r s sv : Int} {sn nm : ByteArray} {a1 a2 a3 a4 a5 b1 b2 b3 b4 b5 vp ve : Value} (h : Trio w w' r s sv sn nm a1 a2 a3 a4 a5 b1 b2 b3 b4 b5 vp ve) : w.heap.size + 3 ≤ w'.heap.size := by
  have := h.z.lt
  omega

theorem Trio.step {w w1 w2 : World} {r s sv : Int} {sn nm : ByteArray} {a1 a2 a3 a4 a5 b1 b2 b3 b4 b5 vp ve : Value} (h : Trio w w1 r s sv sn nm a1 a2 a3 a4 a5 b1 b2 b3 b4 b5 vp ve) (hb : Below w1.heap.size w1 w2) : Trio w w2 r s sv sn nm a1 a2 a3 a4 a5 b1 b2 b3 b4 b5 vp ve :=
  ⟨h.x.below hb h.x.lt, h.y.below hb h.y.lt, h.z.below hb h.z.lt, h.below.trans (hb.mono (by have := h.size; omega))⟩

theorem Trio.same {w w' : World} {r s sv : Int} {sn nm : ByteArray} {a1 a2 a3 a4 a5 b1 b2 b3 b4 b5 vp ve : Value} (h : Trio w w' r s sv sn nm a1 a2 a3 a4 a5 b1 b2 b3 b4 b5 vp ve) {lo hi : Nat} (hh : hi ≤ w.heap.size) : Same lo hi w w' := Same.below h.below hh

/-- The same as facts for the walk. -/
abbrev TrioC (w : World) (r s sv : Int) (sn nm : ByteArray) (a1 a2 a3 a4 a5 b1 b2 b3 b4 b5 vp ve : Value) (w' : World) : Prop :=
  w'.cell? ⟨w.heap.size, 0, none⟩ = some (.int .u64 r) ∧ w'.cell? ⟨w.heap.size, 1, none⟩ = some a1 ∧ w'.cell? ⟨w.heap.size, 2, none⟩ = some a2 ∧ w'.cell? ⟨w.heap.size, 3, none⟩ = some a3 ∧ w'.cell? ⟨w.heap.size, 4, none⟩ = some a4 ∧ w'.cell? ⟨w.heap.size, 5, none⟩ = some a5 ∧ w'.cell? ⟨w.heap.size, 6, none⟩ = some (.string sn) ∧ w'.cell? ⟨w.heap.size, 7, none⟩ = some (.int .u64 sv) ∧ w'.cell? ⟨w.heap.size + 1, 0, none⟩ = some (.int .u64 s) ∧ w'.cell? ⟨w.heap.size + 1, 1, none⟩ = some b1 ∧ w'.cell? ⟨w.heap.size + 1, 2, none⟩ = some b2 ∧ w'.cell? ⟨w.heap.size + 1, 3, none⟩ = some b3 ∧ w'.cell? ⟨w.heap.size + 1, 4, none⟩ = some b4 ∧ w'.cell? ⟨w.heap.size + 1, 5, none⟩ = some b5 ∧ w'.cell? ⟨w.heap.size + 2, 0, none⟩ = some (.string nm) ∧ w'.cell? ⟨w.heap.size + 2, 1, none⟩ = some vp ∧ w'.cell? ⟨w.heap.size + 2, 2, none⟩ = some ve ∧ w.heap.size + 3 ≤ w'.heap.size ∧ Below w.heap.size w w'

theorem Trio.c {w w' : World} {r s sv : Int} {sn nm : ByteArray} {a1 a2 a3 a4 a5 b1 b2 b3 b4 b5 vp ve : Value} (h : Trio w w' r s sv sn nm a1 a2 a3 a4 a5 b1 b2 b3 b4 b5 vp ve) : TrioC w r s sv sn nm a1 a2 a3 a4 a5 b1 b2 b3 b4 b5 vp ve w' :=
  ⟨h.x.cell 0, h.x.cell 1, h.x.cell 2, h.x.cell 3, h.x.cell 4, h.x.cell 5, h.x.cell 6, h.x.cell 7, h.y.cell 0, h.y.cell 1, h.y.cell 2, h.y.cell 3, h.y.cell 4, h.y.cell 5, h.z.cell 0, h.z.cell 1, h.z.cell 2, h.size, h.below⟩

theorem TrioC.step {w w1 w2 : World} {r s sv : Int} {sn nm : ByteArray} {a1 a2 a3 a4 a5 b1 b2 b3 b4 b5 vp ve : Value} (h : TrioC w r s sv sn nm a1 a2 a3 a4 a5 b1 b2 b3 b4 b5 vp ve w1) (hb : Below w1.heap.size w1 w2) : TrioC w r s sv sn nm a1 a2 a3 a4 a5 b1 b2 b3 b4 b5 vp ve w2 := by
  obtain ⟨x0, x1, x2, x3, x4, x5, x6, x7, y0, y1, y2, y3, y4, y5, z0, z1, z2, hs, hB⟩ := h
  have e0 : ∀ j, w2.cell? ⟨w.heap.size, j, none⟩ = w1.cell? ⟨w.heap.size, j, none⟩ := fun j => hb.cell (by simp; omega)
  have e1 : ∀ j, w2.cell? ⟨w.heap.size + 1, j, none⟩ = w1.cell? ⟨w.heap.size + 1, j, none⟩ := fun j => hb.cell (by simp; omega)
  have e2 : ∀ j, w2.cell? ⟨w.heap.size + 2, j, none⟩ = w1.cell? ⟨w.heap.size + 2, j, none⟩ := fun j => hb.cell (by simp; omega)
  have hz := hb.size
  exact ⟨(e0 0).trans x0, (e0 1).trans x1, (e0 2).trans x2, (e0 3).trans x3, (e0 4).trans x4, (e0 5).trans x5, (e0 6).trans x6, (e0 7).trans x7, (e1 0).trans y0, (e1 1).trans y1, (e1 2).trans y2, (e1 3).trans y3, (e1 4).trans y4, (e1 5).trans y5, (e2 0).trans z0, (e2 1).trans z1, (e2 2).trans z2, by omega, hB.trans (hb.mono (by omega))⟩

theorem TrioC.src {w w1 : World} {r s sv : Int} {sn nm : ByteArray} {a1 a2 a3 a4 a5 b1 b2 b3 b4 b5 vp ve : Value} (h : TrioC w r s sv sn nm a1 a2 a3 a4 a5 b1 b2 b3 b4 b5 vp ve w1) : Below w.heap.size w w1 ∧ w.heap.size + 3 ≤ w1.heap.size := by
  obtain ⟨x0, x1, x2, x3, x4, x5, x6, x7, y0, y1, y2, y3, y4, y5, z0, z1, z2, hs, hB⟩ := h
  exact ⟨hB, hs⟩

/-- A whole struct stored over one: n cells. -/
def stored (w : World) (b : Nat) : Nat → List Value → World
  | _, [] => w
  | j, v :: r => stored (w.setCell ⟨b, j, none⟩ v) b (j + 1) r

theorem stored_other {b k : Nat} (h : k ≠ b) : ∀ (vs : List Value) (j : Nat) (w : World), (stored w b j vs).heap[k]? = w.heap[k]?
  | [], _, _ => rfl
  | v :: r, j, w => (stored_other h r (j + 1) _).trans (Below.heap_setCell _ _ _ _ h)
theorem stored_size {b : Nat} : ∀ (vs : List Value) (j : Nat) (w : World), (stored w b j vs).heap.size = w.heap.size
  | [], _, _ => rfl
  | v :: r, j, w => (stored_size r (j + 1) _).trans (by simp)
theorem stored_below {B b : Nat} (hb : B ≤ b) : ∀ (vs : List Value) (j : Nat) {a w : World}, Below B a w → Below B a (stored w b j vs)
  | [], _, _, _, h => h
  | v :: r, j, a, w, h => stored_below hb r (j + 1) (h.setCell (p := ⟨b, j, none⟩) hb v)

/-- A whole struct of 8 cells stored over one. -/
abbrev eight (w : World) (b : Nat) (v0 v1 v2 v3 v4 v5 v6 v7 : Value) : World := ((((((((w.setCell ⟨b, 0, none⟩ v0).setCell ⟨b, 1, none⟩ v1).setCell ⟨b, 2, none⟩ v2).setCell ⟨b, 3, none⟩ v3).setCell ⟨b, 4, none⟩ v4).setCell ⟨b, 5, none⟩ v5).setCell ⟨b, 6, none⟩ v6).setCell ⟨b, 7, none⟩ v7)
theorem eight_other (w : World) {b k : Nat} (v0 v1 v2 v3 v4 v5 v6 v7 : Value) (h : k ≠ b) : (eight w b v0 v1 v2 v3 v4 v5 v6 v7).heap[k]? = w.heap[k]? := by
  simp only [eight]
  rw [Below.heap_setCell _ _ _ _ h, Below.heap_setCell _ _ _ _ h, Below.heap_setCell _ _ _ _ h, Below.heap_setCell _ _ _ _ h, Below.heap_setCell _ _ _ _ h, Below.heap_setCell _ _ _ _ h, Below.heap_setCell _ _ _ _ h, Below.heap_setCell _ _ _ _ h]
theorem eight_size (w : World) (b : Nat) (v0 v1 v2 v3 v4 v5 v6 v7 : Value) : (eight w b v0 v1 v2 v3 v4 v5 v6 v7).heap.size = w.heap.size := by simp [eight]
theorem eight_same {w : World} {b : Nat} {t : TypeId} {c0 c1 c2 c3 c4 c5 c6 c7 : Value} (h : Bk w b #[c0, c1, c2, c3, c4, c5, c6, c7] t) (v0 v1 v2 v3 v4 v5 v6 v7 : Value) : Bk (eight w b v0 v1 v2 v3 v4 v5 v6 v7) b #[v0, v1, v2, v3, v4, v5, v6, v7] t := by
  have := (((((((h.set 0 v0).set 1 v1).set 2 v2).set 3 v3).set 4 v4).set 5 v5).set 6 v6).set 7 v7
  simpa using this
theorem eight_below {B b : Nat} {a w : World} (h : Below B a w) (hb : B ≤ b) (v0 v1 v2 v3 v4 v5 v6 v7 : Value) : Below B a (eight w b v0 v1 v2 v3 v4 v5 v6 v7) :=
  (((((((h.setCell hb _).setCell hb _).setCell hb _).setCell hb _).setCell hb _).setCell hb _).setCell hb _).setCell hb _
theorem eight_range {lo hi b : Nat} {w w1 : World} (h : Same lo hi w w1) (hb : b < lo ∨ hi ≤ b) (v0 v1 v2 v3 v4 v5 v6 v7 : Value) : Same lo hi w (eight w1 b v0 v1 v2 v3 v4 v5 v6 v7) := fun k h1 h2 => (eight_other w1 v0 v1 v2 v3 v4 v5 v6 v7 (by omega)).trans (h k h1 h2)

/-- A whole struct of 3 cells stored over one. -/
abbrev three (w : World) (b : Nat) (v0 v1 v2 : Value) : World := (((w.setCell ⟨b, 0, none⟩ v0).setCell ⟨b, 1, none⟩ v1).setCell ⟨b, 2, none⟩ v2)
theorem three_other (w : World) {b k : Nat} (v0 v1 v2 : Value) (h : k ≠ b) : (three w b v0 v1 v2).heap[k]? = w.heap[k]? := by
  simp only [three]
  rw [Below.heap_setCell _ _ _ _ h, Below.heap_setCell _ _ _ _ h, Below.heap_setCell _ _ _ _ h]
theorem three_size (w : World) (b : Nat) (v0 v1 v2 : Value) : (three w b v0 v1 v2).heap.size = w.heap.size := by simp [three]
theorem three_same {w : World} {b : Nat} {t : TypeId} {c0 c1 c2 : Value} (h : Bk w b #[c0, c1, c2] t) (v0 v1 v2 : Value) : Bk (three w b v0 v1 v2) b #[v0, v1, v2] t := by
  have := ((h.set 0 v0).set 1 v1).set 2 v2
  simpa using this
theorem three_below {B b : Nat} {a w : World} (h : Below B a w) (hb : B ≤ b) (v0 v1 v2 : Value) : Below B a (three w b v0 v1 v2) :=
  ((h.setCell hb _).setCell hb _).setCell hb _
theorem three_range {lo hi b : Nat} {w w1 : World} (h : Same lo hi w w1) (hb : b < lo ∨ hi ≤ b) (v0 v1 v2 : Value) : Same lo hi w (three w1 b v0 v1 v2) := fun k h1 h2 => (three_other w1 v0 v1 v2 (by omega)).trans (h k h1 h2)

theorem Trio.setx {w w' : World} {r s sv : Int} {sn nm : ByteArray} {a1 a2 a3 a4 a5 b1 b2 b3 b4 b5 vp ve : Value} (h : Trio w w' r s sv sn nm a1 a2 a3 a4 a5 b1 b2 b3 b4 b5 vp ve) (d1 d2 d3 d4 d5 : Value) : Trio w (eight w' w.heap.size (.int .u64 r) d1 d2 d3 d4 d5 (.string sn) (.int .u64 sv)) r s sv sn nm d1 d2 d3 d4 d5 b1 b2 b3 b4 b5 vp ve :=
  ⟨eight_same h.x _ _ _ _ _ _ _ _, (eight_other _ _ _ _ _ _ _ _ _ (by omega)).trans h.y, (eight_other _ _ _ _ _ _ _ _ _ (by omega)).trans h.z, eight_below h.below (Nat.le_refl _) _ _ _ _ _ _ _ _⟩
theorem Trio.sety {w w' : World} {r s sv : Int} {sn nm : ByteArray} {a1 a2 a3 a4 a5 b1 b2 b3 b4 b5 vp ve : Value} (h : Trio w w' r s sv sn nm a1 a2 a3 a4 a5 b1 b2 b3 b4 b5 vp ve) (d1 d2 d3 d4 d5 : Value) : Trio w (six w' (w.heap.size + 1) (.int .u64 s) d1 d2 d3 d4 d5) r s sv sn nm a1 a2 a3 a4 a5 d1 d2 d3 d4 d5 vp ve :=
  ⟨(six_other _ _ _ _ _ _ _ _ _ (by omega)).trans h.x, six_same h.y _ _ _ _ _ _, (six_other _ _ _ _ _ _ _ _ _ (by omega)).trans h.z, six_below h.below (by omega) _ _ _ _ _ _⟩
theorem Trio.setz {w w' : World} {r s sv : Int} {sn nm : ByteArray} {a1 a2 a3 a4 a5 b1 b2 b3 b4 b5 vp ve : Value} (h : Trio w w' r s sv sn nm a1 a2 a3 a4 a5 b1 b2 b3 b4 b5 vp ve) (d1 d2 : Value) : Trio w (three w' (w.heap.size + 2) (.string nm) d1 d2) r s sv sn nm a1 a2 a3 a4 a5 b1 b2 b3 b4 b5 d1 d2 :=
  ⟨(three_other _ _ _ _ (by omega)).trans h.x, (three_other _ _ _ _ (by omega)).trans h.y, three_same h.z _ _ _, three_below h.below (by omega) _ _ _⟩

theorem copySnap_sh (r sv : Int) (sn : ByteArray) (c1 c2 c3 c4 c5 : Value) (n : News) (w : World) {lo hi : Nat} (h : NewsAt lo hi w c1 c2 c3 c4 c5 n) (hh : hi ≤ w.heap.size) :
    Calls Try.prog 19 #[.agg #[.int .u64 r, c1, c2, c3, c4, c5, .string sn, .int .u64 sv]] w fun e w' => ∃ x1 p1 x2 p2 x3 p3 x4 p4 x5 p5, e = .returned (.agg #[.int .u64 r, .slice x1 n.mn.length p1, .slice x2 n.ms.length p2, .slice x3 n.mp.length p3, .slice x4 n.fn.length p4, .slice x5 n.fv.length p5, .string sn, .int .u64 sv]) ∧
      NewsAt w.heap.size w'.heap.size w' (.slice x1 n.mn.length p1) (.slice x2 n.ms.length p2) (.slice x3 n.mp.length p3) (.slice x4 n.fn.length p4) (.slice x5 n.fv.length p5) n ∧ Below w.heap.size w w' :=
  (copySnap_any r sv sn c1 c2 c3 c4 c5 n w h hh).mono (by
    rintro e w' ⟨d1, d2, d3, d4, d5, rfl, h1, h2⟩
    obtain ⟨x1, p1, rfl⟩ := h1.1.shape
    obtain ⟨x2, p2, rfl⟩ := h1.2.1.shape
    obtain ⟨x3, p3, rfl⟩ := h1.2.2.1.shape
    obtain ⟨x4, p4, rfl⟩ := h1.2.2.2.1.shape
    obtain ⟨x5, p5, rfl⟩ := h1.2.2.2.2.shape
    exact ⟨x1, p1, x2, p2, x3, p3, x4, p4, x5, p5, rfl, h1, h2⟩)

theorem copySite_sh (nm : ByteArray) (vp ve : Value) (pl es : List ByteArray) (w : World) {lo hi : Nat} (hp : StrsAt lo hi w vp pl) (he : StrsAt lo hi w ve es) (hh : hi ≤ w.heap.size) :
    Calls Try.prog 20 #[.agg #[.string nm, vp, ve]] w fun e w' => ∃ x1 p1 x2 p2, e = .returned (.agg #[.string nm, .slice x1 pl.length p1, .slice x2 es.length p2]) ∧ StrsAt w.heap.size w'.heap.size w' (.slice x1 pl.length p1) pl ∧ StrsAt w.heap.size w'.heap.size w' (.slice x2 es.length p2) es ∧ Below w.heap.size w w' :=
  (copySite_any nm vp ve pl es w hp he hh).mono (by
    rintro e w' ⟨d1, d2, rfl, h1, h2, h3⟩
    obtain ⟨x1, p1, rfl⟩ := h1.shape
    obtain ⟨x2, p2, rfl⟩ := h2.shape
    exact ⟨x1, p1, x2, p2, rfl, h1, h2, h3⟩)

/-- toSnap on a ZSnap in memory. -/
theorem toSnap_at (r sv : Int) (sn : ByteArray) (c1 c2 c3 c4 c5 : Value) (n : News) (vs : List Value) (w : World) {lo hi : Nat} (h : NewsAt lo hi w c1 c2 c3 c4 c5 n) (h3 : RowAt 24 lo hi w c3 vs) (h3s : StrsEach lo hi w vs n.mp) (hh : hi ≤ w.heap.size) :
    Calls Try.prog 21 #[.agg #[.int .u64 r, c1, c2, c3, c4, c5, .string sn, .int .u64 sv]] w fun e w' => ∃ B m1 m2, e = .returned (.pointer (some ⟨B, 0, none⟩)) ∧ (w.heap.size ≤ B ∧ Bk w' B #[.int .u64 r, .map m1, .map m2, .string sn, .int .u64 sv] 59) ∧
      MapIs mkR w.heap.size w'.heap.size w' m1 n.mn.length (mapOf (marks n.mn n.ms vs)) ∧ MapIs fiR w.heap.size w'.heap.size w' m2 n.fn.length (mapOf (fins n.fn n.fv)) ∧ (0 < r → m1 ≠ none ∧ m2 ≠ none) ∧ (∀ b, m1 = some b → m2 ≠ some b) ∧ Below w.heap.size w w' := by
  obtain ⟨g1, g2, _, g4, g5⟩ := h
  exact toSnap_any r sv sn c1 c2 c3 c4 c5 n.mn n.ms vs n.fn n.fv w g1 g2 h3 (fun i hi => by
    obtain ⟨ao, cap, e⟩ := (h3s.2 i hi).shape
    exact ⟨ao, _, cap, e⟩) g4 g5 hh

/-- toNews on a ZNews in memory, the peers' slices named. -/
theorem toNews_vs (r : Int) (c1 c2 c3 c4 c5 : Value) (force : Bool) (n : News) (vs : List Value) (w : World) {lo hi : Nat} (h : NewsAt lo hi w c1 c2 c3 c4 c5 n) (h3 : RowAt 24 lo hi w c3 vs) (h3s : StrsEach lo hi w vs n.mp) (hh : hi ≤ w.heap.size) :
    Calls Try.prog 13 #[.agg #[.int .u64 r, c1, c2, c3, c4, c5], .bool force] w fun e w' => ∃ m1 m2, e = .returned (.agg #[.int .u64 r, .map m1, .map m2]) ∧ MapIs mkR w.heap.size w'.heap.size w' m1 n.mn.length (mapOf (marks n.mn n.ms vs)) ∧ MapIs fiR w.heap.size w'.heap.size w' m2 n.fn.length (mapOf (fins n.fn n.fv)) ∧ (force = true → m1 ≠ none ∧ m2 ≠ none) ∧ Below w.heap.size w w' := by
  obtain ⟨g1, g2, _, g4, g5⟩ := h
  exact toNews_any r c1 c2 c3 c4 c5 force n.mn n.ms vs n.fn n.fv w g1 g2 h3 (fun i hi => by
    obtain ⟨ao, cap, e⟩ := (h3s.2 i hi).shape
    exact ⟨ao, _, cap, e⟩) g4 g5 hh

end Go.Proofs.Qxb6601448a
