/- The law FnCoversPreorder, walked. -/
import Derived.Test.Qxb6601448aBoxes
import Derived.Test.Qxb6601448aZz8
namespace Go.Proofs.Qxb6601448a
open Go.RowKit
set_option linter.unusedVariables false

/-- The three boxes. -/
structure Three (w w' : World) (r s t : Int) (a1 a2 a3 a4 a5 b1 b2 b3 b4 b5 c1 c2 c3 c4 c5 : Value) : Prop where
  x : Bx w' w.heap.size (.int .u64 r) a1 a2 a3 a4 a5
  y : Bx w' (w.heap.size + 1) (.int .u64 s) b1 b2 b3 b4 b5
  z : Bx w' (w.heap.size + 2) (.int .u64 t) c1 c2 c3 c4 c5
  below : Below w.heap.size w w'

theorem Three.start (w : World) (r s t : Int) (a1 a2 a3 a4 a5 b1 b2 b3 b4 b5 c1 c2 c3 c4 c5 : Value) : Three w (((w.alloc (.cells #[.int .u64 r, a1, a2, a3, a4, a5] 27)).alloc (.cells #[.int .u64 s, b1, b2, b3, b4, b5] 27)).alloc (.cells #[.int .u64 t, c1, c2, c3, c4, c5] 27)) r s t a1 a2 a3 a4 a5 b1 b2 b3 b4 b5 c1 c2 c3 c4 c5 := by
  refine ⟨((Bx.new w _ _ _ _ _ _).alloc _).alloc _, ?_, ?_, (((Below.refl _ w).alloc (Nat.le_refl _) _).alloc (by simp) _).alloc (by simp; omega) _⟩
  · have := (Bx.new (w.alloc (.cells #[.int .u64 r, a1, a2, a3, a4, a5] 27)) (.int .u64 s) b1 b2 b3 b4 b5).alloc (.cells #[.int .u64 t, c1, c2, c3, c4, c5] 27)
    simpa using this
  · have := Bx.new ((w.alloc (.cells #[.int .u64 r, a1, a2, a3, a4, a5] 27)).alloc (.cells #[.int .u64 s, b1, b2, b3, b4, b5] 27)) (.int .u64 t) c1 c2 c3 c4 c5
    simpa using this

theorem Three.size {w w' : World} {r s t : Int} {a1 a2 a3 a4 a5 b1 b2 b3 b4 b5 c1 c2 c3 c4 c5 : Value} (h : Three w w' r s t a1 a2 a3 a4 a5 b1 b2 b3 b4 b5 c1 c2 c3 c4 c5) : w.heap.size + 3 ≤ w'.heap.size := by
  have := h.z.lt
  omega

theorem Three.step {w w1 w2 : World} {r s t : Int} {a1 a2 a3 a4 a5 b1 b2 b3 b4 b5 c1 c2 c3 c4 c5 : Value} (h : Three w w1 r s t a1 a2 a3 a4 a5 b1 b2 b3 b4 b5 c1 c2 c3 c4 c5) (hb : Below w1.heap.size w1 w2) : Three w w2 r s t a1 a2 a3 a4 a5 b1 b2 b3 b4 b5 c1 c2 c3 c4 c5 :=
  ⟨h.x.below hb h.x.lt, h.y.below hb h.y.lt, h.z.below hb h.z.lt, h.below.trans (hb.mono (by have := h.size; omega))⟩

theorem Three.same {w w' : World} {r s t : Int} {a1 a2 a3 a4 a5 b1 b2 b3 b4 b5 c1 c2 c3 c4 c5 : Value} (h : Three w w' r s t a1 a2 a3 a4 a5 b1 b2 b3 b4 b5 c1 c2 c3 c4 c5) {lo hi : Nat} (hh : hi ≤ w.heap.size) : Same lo hi w w' := Same.below h.below hh

/-- The same as facts for the walk. -/
abbrev ThreeC (w : World) (r s t : Int) (a1 a2 a3 a4 a5 b1 b2 b3 b4 b5 c1 c2 c3 c4 c5 : Value) (w' : World) : Prop :=
  w'.cell? ⟨w.heap.size, 0, none⟩ = some (.int .u64 r) ∧ w'.cell? ⟨w.heap.size, 1, none⟩ = some a1 ∧ w'.cell? ⟨w.heap.size, 2, none⟩ = some a2 ∧ w'.cell? ⟨w.heap.size, 3, none⟩ = some a3 ∧ w'.cell? ⟨w.heap.size, 4, none⟩ = some a4 ∧ w'.cell? ⟨w.heap.size, 5, none⟩ = some a5 ∧ w'.cell? ⟨w.heap.size + 1, 0, none⟩ = some (.int .u64 s) ∧ w'.cell? ⟨w.heap.size + 1, 1, none⟩ = some b1 ∧ w'.cell? ⟨w.heap.size + 1, 2, none⟩ = some b2 ∧ w'.cell? ⟨w.heap.size + 1, 3, none⟩ = some b3 ∧ w'.cell? ⟨w.heap.size + 1, 4, none⟩ = some b4 ∧ w'.cell? ⟨w.heap.size + 1, 5, none⟩ = some b5 ∧ w'.cell? ⟨w.heap.size + 2, 0, none⟩ = some (.int .u64 t) ∧ w'.cell? ⟨w.heap.size + 2, 1, none⟩ = some c1 ∧ w'.cell? ⟨w.heap.size + 2, 2, none⟩ = some c2 ∧ w'.cell? ⟨w.heap.size + 2, 3, none⟩ = some c3 ∧ w'.cell? ⟨w.heap.size + 2, 4, none⟩ = some c4 ∧ w'.cell? ⟨w.heap.size + 2, 5, none⟩ = some c5 ∧ w.heap.size + 3 ≤ w'.heap.size ∧ Below w.heap.size w w'

theorem Three.c {w w' : World} {r s t : Int} {a1 a2 a3 a4 a5 b1 b2 b3 b4 b5 c1 c2 c3 c4 c5 : Value} (h : Three w w' r s t a1 a2 a3 a4 a5 b1 b2 b3 b4 b5 c1 c2 c3 c4 c5) : ThreeC w r s t a1 a2 a3 a4 a5 b1 b2 b3 b4 b5 c1 c2 c3 c4 c5 w' := by
  obtain ⟨x0, x1, x2, x3, x4, x5⟩ := h.x.cells
  obtain ⟨y0, y1, y2, y3, y4, y5⟩ := h.y.cells
  obtain ⟨z0, z1, z2, z3, z4, z5⟩ := h.z.cells
  exact ⟨x0, x1, x2, x3, x4, x5, y0, y1, y2, y3, y4, y5, z0, z1, z2, z3, z4, z5, h.size, h.below⟩

theorem ThreeC.step {w w1 w2 : World} {r s t : Int} {a1 a2 a3 a4 a5 b1 b2 b3 b4 b5 c1 c2 c3 c4 c5 : Value} (h : ThreeC w r s t a1 a2 a3 a4 a5 b1 b2 b3 b4 b5 c1 c2 c3 c4 c5 w1) (hb : Below w1.heap.size w1 w2) : ThreeC w r s t a1 a2 a3 a4 a5 b1 b2 b3 b4 b5 c1 c2 c3 c4 c5 w2 := by
  obtain ⟨x0, x1, x2, x3, x4, x5, y0, y1, y2, y3, y4, y5, z0, z1, z2, z3, z4, z5, hs, hB⟩ := h
  have e0 : ∀ j, w2.cell? ⟨w.heap.size, j, none⟩ = w1.cell? ⟨w.heap.size, j, none⟩ := fun j => hb.cell (by simp; omega)
  have e1 : ∀ j, w2.cell? ⟨w.heap.size + 1, j, none⟩ = w1.cell? ⟨w.heap.size + 1, j, none⟩ := fun j => hb.cell (by simp; omega)
  have e2 : ∀ j, w2.cell? ⟨w.heap.size + 2, j, none⟩ = w1.cell? ⟨w.heap.size + 2, j, none⟩ := fun j => hb.cell (by simp; omega)
  have hz := hb.size
  exact ⟨(e0 0).trans x0, (e0 1).trans x1, (e0 2).trans x2, (e0 3).trans x3, (e0 4).trans x4, (e0 5).trans x5, (e1 0).trans y0, (e1 1).trans y1, (e1 2).trans y2, (e1 3).trans y3, (e1 4).trans y4, (e1 5).trans y5,
    (e2 0).trans z0, (e2 1).trans z1, (e2 2).trans z2, (e2 3).trans z3, (e2 4).trans z4, (e2 5).trans z5, by omega, hB.trans (hb.mono (by omega))⟩

theorem ThreeC.src {w w1 : World} {r s t : Int} {a1 a2 a3 a4 a5 b1 b2 b3 b4 b5 c1 c2 c3 c4 c5 : Value} (h : ThreeC w r s t a1 a2 a3 a4 a5 b1 b2 b3 b4 b5 c1 c2 c3 c4 c5 w1) : Below w.heap.size w w1 ∧ w.heap.size + 3 ≤ w1.heap.size := by
  obtain ⟨x0, x1, x2, x3, x4, x5, y0, y1, y2, y3, y4, y5, z0, z1, z2, z3, z4, z5, hs, hB⟩ := h
  exact ⟨hB, hs⟩

theorem six_range {lo hi b : Nat} {w w1 : World} (h : Same lo hi w w1) (hb : b < lo ∨ hi ≤ b) (x0 x1 x2 x3 x4 x5 : Value) : Same lo hi w (six w1 b x0 x1 x2 x3 x4 x5) := fun k h1 h2 => (six_other w1 b k x0 x1 x2 x3 x4 x5 (by omega)).trans (h k h1 h2)

theorem Three.setx {w w' : World} {r s t : Int} {a1 a2 a3 a4 a5 b1 b2 b3 b4 b5 c1 c2 c3 c4 c5 : Value} (h : Three w w' r s t a1 a2 a3 a4 a5 b1 b2 b3 b4 b5 c1 c2 c3 c4 c5) (d1 d2 d3 d4 d5 : Value) : Three w (six w' w.heap.size (.int .u64 r) d1 d2 d3 d4 d5) r s t d1 d2 d3 d4 d5 b1 b2 b3 b4 b5 c1 c2 c3 c4 c5 :=
  ⟨six_same h.x _ _ _ _ _ _, (six_other _ _ _ _ _ _ _ _ _ (by omega)).trans h.y, (six_other _ _ _ _ _ _ _ _ _ (by omega)).trans h.z, six_below h.below (Nat.le_refl _) _ _ _ _ _ _⟩
theorem Three.sety {w w' : World} {r s t : Int} {a1 a2 a3 a4 a5 b1 b2 b3 b4 b5 c1 c2 c3 c4 c5 : Value} (h : Three w w' r s t a1 a2 a3 a4 a5 b1 b2 b3 b4 b5 c1 c2 c3 c4 c5) (d1 d2 d3 d4 d5 : Value) : Three w (six w' (w.heap.size + 1) (.int .u64 s) d1 d2 d3 d4 d5) r s t a1 a2 a3 a4 a5 d1 d2 d3 d4 d5 c1 c2 c3 c4 c5 :=
  ⟨(six_other _ _ _ _ _ _ _ _ _ (by omega)).trans h.x, six_same h.y _ _ _ _ _ _, (six_other _ _ _ _ _ _ _ _ _ (by omega)).trans h.z, six_below h.below (by omega) _ _ _ _ _ _⟩
theorem Three.setz {w w' : World} {r s t : Int} {a1 a2 a3 a4 a5 b1 b2 b3 b4 b5 c1 c2 c3 c4 c5 : Value} (h : Three w w' r s t a1 a2 a3 a4 a5 b1 b2 b3 b4 b5 c1 c2 c3 c4 c5) (d1 d2 d3 d4 d5 : Value) : Three w (six w' (w.heap.size + 2) (.int .u64 t) d1 d2 d3 d4 d5) r s t a1 a2 a3 a4 a5 b1 b2 b3 b4 b5 d1 d2 d3 d4 d5 :=
  ⟨(six_other _ _ _ _ _ _ _ _ _ (by omega)).trans h.x, (six_other _ _ _ _ _ _ _ _ _ (by omega)).trans h.y, six_same h.z _ _ _ _ _ _, six_below h.below (by omega) _ _ _ _ _ _⟩

theorem coversP_refl (r : Int) (D F : DataW Value) : CoversP r D F r D F := Or.inr ⟨rfl, fun _ h => h, fun _ h => h⟩
theorem coversP_trans {r s t : Int} {D1 F1 D2 F2 D3 F3 : DataW Value} (h1 : CoversP r D1 F1 s D2 F2) (h2 : CoversP s D2 F2 t D3 F3) : CoversP r D1 F1 t D3 F3 := by
  rcases h1 with h1 | ⟨rfl, h3, h4⟩
  · rcases h2 with h2 | ⟨rfl, _, _⟩
    · exact Or.inl (by omega)
    · exact Or.inl h1
  · rcases h2 with h2 | ⟨rfl, h5, h6⟩
    · exact Or.inl h2
    · exact Or.inr ⟨rfl, fun kl h => h3 kl (h5 kl h), fun kl h => h4 kl (h6 kl h)⟩

/-- The three News, their maps, in a later world. -/
structure Maps3 (w w' : World) (B P7 P8 P9 hi n1 n2 n3 n4 n5 n6 : Nat) (r s t : Int) (m1 m2 m3 m4 m5 m6 : Option Nat) (D1 F1 D2 F2 D3 F3 : DataW Value) : Prop where
  n7 : Nx w' P7 (.int .u64 r) (.map m1) (.map m2)
  n8 : Nx w' P8 (.int .u64 s) (.map m3) (.map m4)
  n9 : Nx w' P9 (.int .u64 t) (.map m5) (.map m6)
  k1 : MapIs mkR B hi w' m1 n1 D1
  k2 : MapIs fiR B hi w' m2 n2 F1
  k3 : MapIs mkR B hi w' m3 n3 D2
  k4 : MapIs fiR B hi w' m4 n4 F2
  k5 : MapIs mkR B hi w' m5 n5 D3
  k6 : MapIs fiR B hi w' m6 n6 F3
  le : hi ≤ w'.heap.size
  below : Below w.heap.size w w'
  size : w.heap.size ≤ w'.heap.size

theorem Maps3.step {w w' w2 : World} {B P7 P8 P9 hi n1 n2 n3 n4 n5 n6 : Nat} {r s t : Int} {m1 m2 m3 m4 m5 m6 : Option Nat} {D1 F1 D2 F2 D3 F3 : DataW Value} (h : Maps3 w w' B P7 P8 P9 hi n1 n2 n3 n4 n5 n6 r s t m1 m2 m3 m4 m5 m6 D1 F1 D2 F2 D3 F3) (hb : Below w'.heap.size w' w2) : Maps3 w w2 B P7 P8 P9 hi n1 n2 n3 n4 n5 n6 r s t m1 m2 m3 m4 m5 m6 D1 F1 D2 F2 D3 F3 :=
  have hs := Same.below (lo := B) hb h.le
  ⟨h.n7.below hb h.n7.lt, h.n8.below hb h.n8.lt, h.n9.below hb h.n9.lt, h.k1.same hs, h.k2.same hs, h.k3.same hs, h.k4.same hs, h.k5.same hs, h.k6.same hs, Nat.le_trans h.le hb.size, h.below.trans (hb.mono h.size), Nat.le_trans h.size hb.size⟩

theorem countsFit_at (r : Int) (c1 c2 c3 c4 c5 : Value) (n : News) (w : World) {lo hi : Nat} (h : NewsAt lo hi w c1 c2 c3 c4 c5 n) {fit : Bool} (hf : Hid (decide (n.mn.length ≤ 4096 ∧ n.fn.length ≤ 4096) = fit)) :
    Calls Try.prog 11 #[.agg #[.int .u64 r, c1, c2, c3, c4, c5]] w fun e w' => e = .returned (.bool fit) ∧ Below w.heap.size w w' := by
  obtain ⟨x1, p1, rfl⟩ := h.1.shape
  obtain ⟨x4, p4, rfl⟩ := h.2.2.2.1.shape
  have := newsCountsFit_any r c2 c3 c5 x1 x4 n.mn.length p1 n.fn.length p4 w
  rwa [hf.out] at this

set_option maxRecDepth 100000 in
set_option maxHeartbeats 4000000 in
theorem preorder_walk (r s t : Int) (a1 a2 a3 a4 a5 b1 b2 b3 b4 b5 c1 c2 c3 c4 c5 : Value) (na nb nc : News) (w : World) {lo hi : Nat} (ha : NewsAt lo hi w a1 a2 a3 a4 a5 na) (hb : NewsAt lo hi w b1 b2 b3 b4 b5 nb) (hc : NewsAt lo hi w c1 c2 c3 c4 c5 nc) (hh : hi ≤ w.heap.size) :
    Calls Try.prog 3 #[.agg #[.int .u64 r, a1, a2, a3, a4, a5], .agg #[.int .u64 s, b1, b2, b3, b4, b5], .agg #[.int .u64 t, c1, c2, c3, c4, c5]] w fun e w' => e = .returned (.bool true) ∧ Below w.heap.size w w' := by
  have T0 := Three.start w r s t a1 a2 a3 a4 a5 b1 b2 b3 b4 b5 c1 c2 c3 c4 c5
  have kz : Calls Try.prog 8 _ _ _ := zz8 r s t a1 a2 a3 a4 a5 b1 b2 b3 b4 b5 c1 c2 c3 c4 c5 na nb nc _ (ha.same (T0.same hh)) (hb.same (T0.same hh)) (hc.same (T0.same hh)) (by have := T0.size; omega)
  have KZ := hide kz
  have HT0 := hide T0
  clear kz T0
  go_enter Try.func3, Try.ntmps3
  go_wp2_with fail
  refine (unhide KZ).mono ?_
  rintro e w4 ⟨⟨b, rfl⟩, hb4⟩
  have T4 := (unhide HT0).step hb4
  clear KZ HT0 hb4
  cases b with
  | false =>
    go_wp2
    go_ret
    exact ⟨rfl, T4.below⟩
  | true =>
    have C4 : ThreeC w r s t a1 a2 a3 a4 a5 b1 b2 b3 b4 b5 c1 c2 c3 c4 c5 w4.drew := (T4.step (Below.refl _ _).drew).c
    have kA : ∀ w1, ThreeC w r s t a1 a2 a3 a4 a5 b1 b2 b3 b4 b5 c1 c2 c3 c4 c5 w1 → Calls Try.prog 10 #[.agg #[.int .u64 r, a1, a2, a3, a4, a5]] w1 fun e w' => (∃ z, e = .returned (.int .i64 z)) ∧ Below w1.heap.size w1 w' := fun w1 hS => bytesOfNews_any r a1 a2 a3 a4 a5 na w1 (ha.same (Same.below hS.src.1 hh)) (by have := hS.src.2; omega)
    have kB : ∀ w1, ThreeC w r s t a1 a2 a3 a4 a5 b1 b2 b3 b4 b5 c1 c2 c3 c4 c5 w1 → Calls Try.prog 10 #[.agg #[.int .u64 s, b1, b2, b3, b4, b5]] w1 fun e w' => (∃ z, e = .returned (.int .i64 z)) ∧ Below w1.heap.size w1 w' := fun w1 hS => bytesOfNews_any s b1 b2 b3 b4 b5 nb w1 (hb.same (Same.below hS.src.1 hh)) (by have := hS.src.2; omega)
    have kC : ∀ w1, ThreeC w r s t a1 a2 a3 a4 a5 b1 b2 b3 b4 b5 c1 c2 c3 c4 c5 w1 → Calls Try.prog 10 #[.agg #[.int .u64 t, c1, c2, c3, c4, c5]] w1 fun e w' => (∃ z, e = .returned (.int .i64 z)) ∧ Below w1.heap.size w1 w' := fun w1 hS => bytesOfNews_any t c1 c2 c3 c4 c5 nc w1 (hc.same (Same.below hS.src.1 hh)) (by have := hS.src.2; omega)
    have KA := hide kA
    have KB := hide kB
    have KC := hide kC
    have C4' := hide C4
    have HT4 := hide T4
    clear kA kB kC C4 T4
    go_wp2_with fail
    go_region_held3 (fun w' => w'.cell? ⟨w.heap.size, 0, none⟩ = some (.int .u64 r) ∧ w'.cell? ⟨w.heap.size, 1, none⟩ = some a1 ∧ w'.cell? ⟨w.heap.size, 2, none⟩ = some a2 ∧ w'.cell? ⟨w.heap.size, 3, none⟩ = some a3 ∧ w'.cell? ⟨w.heap.size, 4, none⟩ = some a4 ∧ w'.cell? ⟨w.heap.size, 5, none⟩ = some a5 ∧ w'.cell? ⟨w.heap.size + 1, 0, none⟩ = some (.int .u64 s) ∧ w'.cell? ⟨w.heap.size + 1, 1, none⟩ = some b1 ∧ w'.cell? ⟨w.heap.size + 1, 2, none⟩ = some b2 ∧ w'.cell? ⟨w.heap.size + 1, 3, none⟩ = some b3 ∧ w'.cell? ⟨w.heap.size + 1, 4, none⟩ = some b4 ∧ w'.cell? ⟨w.heap.size + 1, 5, none⟩ = some b5 ∧ w'.cell? ⟨w.heap.size + 2, 0, none⟩ = some (.int .u64 t) ∧ w'.cell? ⟨w.heap.size + 2, 1, none⟩ = some c1 ∧ w'.cell? ⟨w.heap.size + 2, 2, none⟩ = some c2 ∧ w'.cell? ⟨w.heap.size + 2, 3, none⟩ = some c3 ∧ w'.cell? ⟨w.heap.size + 2, 4, none⟩ = some c4 ∧ w'.cell? ⟨w.heap.size + 2, 5, none⟩ = some c5 ∧ w.heap.size + 3 ≤ w'.heap.size ∧ Below w.heap.size w w') (first | with_reducible exact unhide C4' | with_reducible exact ThreeC.step (by assumption) (by assumption) | assumption)
      (first | (go_at_call 9; refine (addB_any _ _ _).mono ?_; rintro e w' ⟨⟨z, rfl⟩, hwz⟩; obtain rfl := hwz.symm) | (go_at_call_of 10 (Value.agg #[.int .u64 r, a1, a2, a3, a4, a5]); refine (unhide KA _ ?_).mono ?_; assumption; rintro e w5 ⟨⟨z5, rfl⟩, bA⟩) | (go_at_call_of 10 (Value.agg #[.int .u64 s, b1, b2, b3, b4, b5]); refine (unhide KB _ ?_).mono ?_; assumption; rintro e w6 ⟨⟨z6, rfl⟩, bB⟩) | (go_at_call_of 10 (Value.agg #[.int .u64 t, c1, c2, c3, c4, c5]); refine (unhide KC _ ?_).mono ?_; assumption; rintro e w7 ⟨⟨z7, rfl⟩, bC⟩))
    have T7 := ((((unhide HT4).step (Below.refl _ _).drew).step bA).step bB).step bC
    clear KA KB KC C4' HT4 bA bB bC
    go_wp2_with fail
    · go_ret
      exact ⟨rfl, T7.below⟩
    cases hfa : decide (na.mn.length ≤ 4096 ∧ na.fn.length ≤ 4096) with
    | false =>
      have HF := hide hfa
      clear hfa
      refine (countsFit_at r a1 a2 a3 a4 a5 na _ (ha.same (T7.same hh)) HF).mono ?_
      rintro e w8 ⟨rfl, b8⟩
      go_wp2
      go_ret
      exact ⟨rfl, (T7.step b8).below⟩
    | true =>
    have HFA := hide hfa
    clear hfa
    refine (countsFit_at r a1 a2 a3 a4 a5 na _ (ha.same (T7.same hh)) HFA).mono ?_
    rintro e w8 ⟨rfl, b8⟩
    have T8 := T7.step b8
    clear T7 b8
    obtain ⟨y0, y1, y2, y3, y4, y5⟩ := T8.y.cells
    cases hfb : decide (nb.mn.length ≤ 4096 ∧ nb.fn.length ≤ 4096) with
    | false =>
      have HF := hide hfb
      clear hfb
      go_wp2_with fail
      refine (countsFit_at s b1 b2 b3 b4 b5 nb _ (hb.same (T8.same hh)) HF).mono ?_
      rintro e w9 ⟨rfl, b9⟩
      go_wp2
      go_ret
      exact ⟨rfl, (T8.step b9).below⟩
    | true =>
    have HFB := hide hfb
    clear hfb
    go_wp2_with fail
    refine (countsFit_at s b1 b2 b3 b4 b5 nb _ (hb.same (T8.same hh)) HFB).mono ?_
    rintro e w9 ⟨rfl, b9⟩
    have T9 := T8.step b9
    clear T8 b9 y0 y1 y2 y3 y4 y5
    obtain ⟨z0, z1, z2, z3, z4, z5⟩ := T9.z.cells
    cases hfc : decide (nc.mn.length ≤ 4096 ∧ nc.fn.length ≤ 4096) with
    | false =>
      have HF := hide hfc
      clear hfc
      go_wp2_with fail
      refine (countsFit_at t c1 c2 c3 c4 c5 nc _ (hc.same (T9.same hh)) HF).mono ?_
      rintro e w10 ⟨rfl, b10⟩
      go_wp2
      go_ret
      exact ⟨rfl, (T9.step b10).below⟩
    | true =>
    have HFC := hide hfc
    clear hfc
    go_wp2_with fail
    refine (countsFit_at t c1 c2 c3 c4 c5 nc _ (hc.same (T9.same hh)) HFC).mono ?_
    rintro e w10 ⟨rfl, b10⟩
    have T10 := T9.step b10
    clear T9 b10 z0 z1 z2 z3 z4 z5
    obtain ⟨x0, x1, x2, x3, x4, x5⟩ := T10.x.cells
    go_wp2_with fail
    refine (copyNews_sh r a1 a2 a3 a4 a5 na _ (ha.same (T10.same hh)) (by have := T10.size; omega)).mono ?_
    rintro e w11 ⟨u1, p1, u2, p2, u3, p3, u4, p4, u5, p5, rfl, hA, b11⟩
    have T11 := T10.step b11
    have q10 := T10.size
    clear x0 x1 x2 x3 x4 x5
    obtain ⟨x0, x1, x2, x3, x4, x5⟩ := T11.x.cells
    obtain ⟨f0, f1, f2, f3, f4, f5⟩ := T11.x.free
    obtain ⟨y0, y1, y2, y3, y4, y5⟩ := T11.y.cells
    have T11' := T11.setx (.slice u1 na.mn.length p1) (.slice u2 na.ms.length p2) (.slice u3 na.mp.length p3) (.slice u4 na.fn.length p4) (.slice u5 na.fv.length p5)
    have hA' := hA.same (six_range (Same.refl _ _ _) (b := w.heap.size) (Or.inl (by omega)) (.int .u64 r) (.slice u1 na.mn.length p1) (.slice u2 na.ms.length p2) (.slice u3 na.mp.length p3) (.slice u4 na.fn.length p4) (.slice u5 na.fv.length p5))
    have HT := hide T11'
    have HA := hide (hA'.mono q10 (Nat.le_refl _))
    have HZ := hide b11.size
    clear T10 T11 T11' hA hA' b11
    go_wp2_with fail
    refine (copyNews_sh s b1 b2 b3 b4 b5 nb _ (hb.same ((unhide HT).same hh)) (by have := (unhide HT).size; omega)).mono ?_
    rintro e w12 ⟨v1, g1, v2, g2, v3, g3, v4, g4, v5, g5, rfl, hB, b12⟩
    have q11 := (unhide HT).size
    have T12 := (unhide HT).step b12
    have hA12 := (unhide HA).same (Same.below b12 (by rw [six_size]; exact Nat.le_refl _))
    have z12 := b12.size
    rw [six_size] at z12
    clear x0 x1 x2 x3 x4 x5 f0 f1 f2 f3 f4 f5 y0 y1 y2 y3 y4 y5
    obtain ⟨y0, y1, y2, y3, y4, y5⟩ := T12.y.cells
    obtain ⟨f0, f1, f2, f3, f4, f5⟩ := T12.y.free
    obtain ⟨x0, x1, x2, x3, x4, x5⟩ := T12.z.cells
    have T12' := T12.sety (.slice v1 nb.mn.length g1) (.slice v2 nb.ms.length g2) (.slice v3 nb.mp.length g3) (.slice v4 nb.fn.length g4) (.slice v5 nb.fv.length g5)
    have hB' := (hB.mono q11 (Nat.le_refl _)).same (six_range (Same.refl _ _ _) (b := w.heap.size + 1) (Or.inl (by omega)) (.int .u64 s) (.slice v1 nb.mn.length g1) (.slice v2 nb.ms.length g2) (.slice v3 nb.mp.length g3) (.slice v4 nb.fn.length g4) (.slice v5 nb.fv.length g5))
    have hA' := (hA12.mono (Nat.le_refl _) z12).same (six_range (Same.refl _ _ _) (b := w.heap.size + 1) (Or.inl (by omega)) (.int .u64 s) (.slice v1 nb.mn.length g1) (.slice v2 nb.ms.length g2) (.slice v3 nb.mp.length g3) (.slice v4 nb.fn.length g4) (.slice v5 nb.fv.length g5))
    have HT2 := hide T12'
    have HA2 := hide hA'
    have HB2 := hide hB'
    clear HT HA HZ T12 T12' hA12 hA' hB hB' b12 z12 q11 q10
    go_wp2_with fail
    refine (copyNews_sh t c1 c2 c3 c4 c5 nc _ (hc.same ((unhide HT2).same hh)) (by have := (unhide HT2).size; omega)).mono ?_
    rintro e w13 ⟨k1, h1, k2, h2, k3, h3, k4, h4, k5, h5, rfl, hC, b13⟩
    have q12 := (unhide HT2).size
    have T13 := (unhide HT2).step b13
    have hA13 := (unhide HA2).same (Same.below b13 (by rw [six_size]; exact Nat.le_refl _))
    have hB13 := (unhide HB2).same (Same.below b13 (by rw [six_size]; exact Nat.le_refl _))
    have z13 := b13.size
    rw [six_size] at z13
    clear x0 x1 x2 x3 x4 x5 f0 f1 f2 f3 f4 f5 y0 y1 y2 y3 y4 y5
    obtain ⟨y0, y1, y2, y3, y4, y5⟩ := T13.z.cells
    obtain ⟨f0, f1, f2, f3, f4, f5⟩ := T13.z.free
    obtain ⟨x0, x1, x2, x3, x4, x5⟩ := T13.x.cells
    have T13' := T13.setz (.slice k1 nc.mn.length h1) (.slice k2 nc.ms.length h2) (.slice k3 nc.mp.length h3) (.slice k4 nc.fn.length h4) (.slice k5 nc.fv.length h5)
    have hC' := (hC.mono q12 (Nat.le_refl _)).same (six_range (Same.refl _ _ _) (b := w.heap.size + 2) (Or.inl (by omega)) (.int .u64 t) (.slice k1 nc.mn.length h1) (.slice k2 nc.ms.length h2) (.slice k3 nc.mp.length h3) (.slice k4 nc.fn.length h4) (.slice k5 nc.fv.length h5))
    have hA' := (hA13.mono (Nat.le_refl _) z13).same (six_range (Same.refl _ _ _) (b := w.heap.size + 2) (Or.inl (by omega)) (.int .u64 t) (.slice k1 nc.mn.length h1) (.slice k2 nc.ms.length h2) (.slice k3 nc.mp.length h3) (.slice k4 nc.fn.length h4) (.slice k5 nc.fv.length h5))
    have hB' := (hB13.mono (Nat.le_refl _) z13).same (six_range (Same.refl _ _ _) (b := w.heap.size + 2) (Or.inl (by omega)) (.int .u64 t) (.slice k1 nc.mn.length h1) (.slice k2 nc.ms.length h2) (.slice k3 nc.mp.length h3) (.slice k4 nc.fn.length h4) (.slice k5 nc.fv.length h5))
    have HT3 := hide T13'
    have HA3 := hide hA'
    have HB3 := hide hB'
    have HC3 := hide hC'
    clear HT2 HA2 HB2 T13 T13' hA13 hB13 hA' hB' hC hC' b13 z13 q12 ha hb hc HFA HFB HFC
    go_wp2_with fail
    refine (toNews_at r (.slice u1 na.mn.length p1) (.slice u2 na.ms.length p2) (.slice u3 na.mp.length p3) (.slice u4 na.fn.length p4) (.slice u5 na.fv.length p5) false na (six w13 (w.heap.size + 2) (.int .u64 t) (.slice k1 nc.mn.length h1) (.slice k2 nc.ms.length h2) (.slice k3 nc.mp.length h3) (.slice k4 nc.fn.length h4) (.slice k5 nc.fv.length h5)) (unhide HA3) (by rw [six_size]; exact Nat.le_refl _)).mono ?_
    rintro e w14 ⟨m1, m2, vsa, _, _, rfl, M1, M2, _, b14⟩
    have T14 := (unhide HT3).step b14
    have hB14 := (unhide HB3).same (Same.below b14 (by rw [six_size]; exact Nat.le_refl _))
    have hC14 := (unhide HC3).same (Same.below b14 (by rw [six_size]; exact Nat.le_refl _))
    have z14 := b14.size
    rw [six_size] at z14
    have q13 := (unhide HT3).size
    rw [six_size] at q13
    have M1' := M1.mono (lo' := w.heap.size + 3) (by rw [six_size]; exact q13) (Nat.le_refl _)
    have M2' := M2.mono (lo' := w.heap.size + 3) (by rw [six_size]; exact q13) (Nat.le_refl _)
    generalize mapOf (marks na.mn na.ms vsa) = D1 at M1'
    generalize mapOf (fins na.fn na.fv) = F1 at M2'
    clear x0 x1 x2 x3 x4 x5 f0 f1 f2 f3 f4 f5 y0 y1 y2 y3 y4 y5
    obtain ⟨y0, y1, y2, y3, y4, y5⟩ := T14.y.cells
    have l14 := T14.size
    have lt14 : w.heap.size + 1 < w14.heap.size := by omega
    have HT4 := hide T14
    have HB4 := hide (hB14.mono (Nat.le_refl _) z14)
    have HC4 := hide (hC14.mono (Nat.le_refl _) z14)
    have HM1 := hide M1'
    have HM2 := hide M2'
    clear HT3 HA3 HB3 HC3 T14 hB14 hC14 M1 M2 M1' M2' b14 z14 q13
    go_wp2_with fail
    refine (toNews_at s (.slice v1 nb.mn.length g1) (.slice v2 nb.ms.length g2) (.slice v3 nb.mp.length g3) (.slice v4 nb.fn.length g4) (.slice v5 nb.fv.length g5) false nb (w14.alloc (.cells #[.int .u64 r, .map m1, .map m2] 36)) ((unhide HB4).same ((Same.refl _ _ _).alloc _ (Nat.le_refl _))) (by simp)).mono ?_
    rintro e w15 ⟨m3, m4, vsb, _, _, rfl, M3, M4, _, b15⟩
    have T15 := ((unhide HT4).step ((Below.refl _ _).alloc (Nat.le_refl _) _)).step b15
    have hC15 := ((unhide HC4).same ((Same.refl _ _ _).alloc _ (Nat.le_refl _))).same (Same.below b15 (by simp))
    have z15 := b15.size
    simp only [World.size_alloc] at z15
    have q14 := (unhide HT4).size
    have M3' := M3.mono (lo' := w.heap.size + 3) (by simp; omega) (Nat.le_refl _)
    have M4' := M4.mono (lo' := w.heap.size + 3) (by simp; omega) (Nat.le_refl _)
    have M1' := ((unhide HM1).same (((Same.refl _ _ _).alloc _ (Nat.le_refl _)).trans (Same.below b15 (by simp)))).mono (Nat.le_refl _) (by omega : w14.heap.size ≤ w15.heap.size)
    have M2' := ((unhide HM2).same (((Same.refl _ _ _).alloc _ (Nat.le_refl _)).trans (Same.below b15 (by simp)))).mono (Nat.le_refl _) (by omega : w14.heap.size ≤ w15.heap.size)
    have N7 := (Nx.new w14 (.int .u64 r) (.map m1) (.map m2)).below b15 (by simp)
    generalize mapOf (marks nb.mn nb.ms vsb) = D2 at M3'
    generalize mapOf (fins nb.fn nb.fv) = F2 at M4'
    clear y0 y1 y2 y3 y4 y5
    obtain ⟨y0, y1, y2, y3, y4, y5⟩ := T15.z.cells
    have l15 := T15.size
    have lt15 : w.heap.size + 2 < w15.heap.size := by omega
    have HT5 := hide T15
    have HC5 := hide (hC15.mono (Nat.le_refl _) (by omega : w14.heap.size ≤ w15.heap.size))
    have HN7 := hide N7
    have K1 := hide M1'
    have K2 := hide M2'
    have K3 := hide M3'
    have K4 := hide M4'
    have Q14 := hide q14
    have Z15 := hide z15
    clear HT4 HB4 HC4 HM1 HM2 T15 hC15 M3 M4 M1' M2' M3' M4' b15 z15 q14 N7
    go_wp2_with fail
    refine (toNews_at t (.slice k1 nc.mn.length h1) (.slice k2 nc.ms.length h2) (.slice k3 nc.mp.length h3) (.slice k4 nc.fn.length h4) (.slice k5 nc.fv.length h5) false nc (w15.alloc (.cells #[.int .u64 s, .map m3, .map m4] 36)) ((unhide HC5).same ((Same.refl _ _ _).alloc _ (Nat.le_refl _))) (by simp)).mono ?_
    rintro e w16 ⟨m5, m6, vsc, _, _, rfl, M5, M6, _, b16⟩
    have T16 := ((unhide HT5).step ((Below.refl _ _).alloc (Nat.le_refl _) _)).step b16
    have z16 := b16.size
    simp only [World.size_alloc] at z16
    have q15 := (unhide HT5).size
    have M5' := M5.mono (lo' := w.heap.size + 3) (by simp; omega) (Nat.le_refl _)
    have M6' := M6.mono (lo' := w.heap.size + 3) (by simp; omega) (Nat.le_refl _)
    have M1' := ((unhide K1).same (((Same.refl _ _ _).alloc _ (Nat.le_refl _)).trans (Same.below b16 (by simp)))).mono (Nat.le_refl _) (by omega : w15.heap.size ≤ w16.heap.size)
    have M2' := ((unhide K2).same (((Same.refl _ _ _).alloc _ (Nat.le_refl _)).trans (Same.below b16 (by simp)))).mono (Nat.le_refl _) (by omega : w15.heap.size ≤ w16.heap.size)
    have M3' := ((unhide K3).same (((Same.refl _ _ _).alloc _ (Nat.le_refl _)).trans (Same.below b16 (by simp)))).mono (Nat.le_refl _) (by omega : w15.heap.size ≤ w16.heap.size)
    have M4' := ((unhide K4).same (((Same.refl _ _ _).alloc _ (Nat.le_refl _)).trans (Same.below b16 (by simp)))).mono (Nat.le_refl _) (by omega : w15.heap.size ≤ w16.heap.size)
    have n7lt := (unhide HN7).lt
    have N7 := ((unhide HN7).alloc (.cells #[.int .u64 s, .map m3, .map m4] 36)).below b16 (by simp; omega)
    have N8 := (Nx.new w15 (.int .u64 s) (.map m3) (.map m4)).below b16 (by simp)
    generalize mapOf (marks nc.mn nc.ms vsc) = D3 at M5'
    generalize mapOf (fins nc.fn nc.fv) = F3 at M6'
    clear y0 y1 y2 y3 y4 y5 HT5 HC5 HN7 K1 K2 K3 K4 M5 M6 b16
    obtain ⟨x0, x1, x2⟩ := N7.cells
    have hbb := T16.below
    have l16 := T16.size
    have lt16 : w14.heap.size < w16.heap.size := by omega
    have lt17 : w15.heap.size < w16.heap.size := by omega
    have HBB := hide hbb
    have K1 := hide M1'
    have K2 := hide M2'
    have K3 := hide M3'
    have K4 := hide M4'
    have K5 := hide M5'
    have K6 := hide M6'
    have HN7 := hide N7
    have HN8 := hide N8
    have HT6 := hide T16
    clear M1' M2' M3' M4' M5' M6' N7 N8 T16 hbb
    go_wp2_with fail
    have l16' : w16.heap.size ≤ (w16.alloc (.cells #[.int .u64 t, .map m5, .map m6] 36)).heap.size := by simp
    have hal : Same (w.heap.size + 3) w16.heap.size w16 (w16.alloc (.cells #[.int .u64 t, .map m5, .map m6] 36)) := (Same.refl _ _ _).alloc _ (Nat.le_refl _)
    have G : Maps3 w (w16.alloc (.cells #[.int .u64 t, .map m5, .map m6] 36)) (w.heap.size + 3) w14.heap.size w15.heap.size w16.heap.size w16.heap.size _ _ _ _ _ _ r s t m1 m2 m3 m4 m5 m6 D1 F1 D2 F2 D3 F3 :=
      ⟨(unhide HN7).alloc _, (unhide HN8).alloc _, Nx.new _ _ _ _, (unhide K1).same hal, (unhide K2).same hal, (unhide K3).same hal, (unhide K4).same hal, (unhide K5).same hal, (unhide K6).same hal, l16', (unhide HBB).alloc (by omega) _, by simp; omega⟩
    clear HBB K1 K2 K3 K4 K5 K6 HN7 HN8 HT6 x0 x1 x2 l16' hal l14 l15 l16 lt14 lt15 lt16 lt17
    refine (covers_any r r m1 m2 m1 m2 _ D1 F1 D1 F1 G.le G.k1 G.k2 G.k1 G.k2).mono ?_
    rintro e w17 ⟨b, rfl, hiff, b17⟩
    obtain rfl : b = true := hiff.2 (coversP_refl r D1 F1)
    have G17 := G.step b17
    clear G b17 hiff
    obtain ⟨x0, x1, x2⟩ := G17.n7.cells
    obtain ⟨y0, y1, y2⟩ := G17.n8.cells
    have HG := hide G17
    clear G17
    go_wp2_with fail
    refine (covers_any r s m1 m2 m3 m4 _ D1 F1 D2 F2 (unhide HG).le (unhide HG).k1 (unhide HG).k2 (unhide HG).k3 (unhide HG).k4).mono ?_
    rintro e w18 ⟨b, rfl, hi1, b18⟩
    have G18 := (unhide HG).step b18
    have HI1 := hide hi1
    clear HG b18 x0 x1 x2 y0 y1 y2 hi1
    cases b with
    | false =>
      go_wp2
      go_ret
      exact ⟨rfl, G18.below⟩
    | true =>
    obtain ⟨x0, x1, x2⟩ := G18.n8.cells
    obtain ⟨y0, y1, y2⟩ := G18.n9.cells
    have HG := hide G18
    clear G18
    go_wp2_with fail
    refine (covers_any s t m3 m4 m5 m6 _ D2 F2 D3 F3 (unhide HG).le (unhide HG).k3 (unhide HG).k4 (unhide HG).k5 (unhide HG).k6).mono ?_
    rintro e w19 ⟨b, rfl, hi2, b19⟩
    have G19 := (unhide HG).step b19
    have HI2 := hide hi2
    clear HG b19 x0 x1 x2 y0 y1 y2 hi2
    cases b with
    | false =>
      go_wp2
      go_ret
      exact ⟨rfl, G19.below⟩
    | true =>
    obtain ⟨x0, x1, x2⟩ := G19.n7.cells
    obtain ⟨y0, y1, y2⟩ := G19.n9.cells
    have HG := hide G19
    clear G19
    go_wp2_with fail
    refine (covers_any r t m1 m2 m5 m6 _ D1 F1 D3 F3 (unhide HG).le (unhide HG).k1 (unhide HG).k2 (unhide HG).k5 (unhide HG).k6).mono ?_
    rintro e w20 ⟨b, rfl, hi3, b20⟩
    obtain rfl : b = true := hi3.2 (coversP_trans ((unhide HI1).1 (by simp)) ((unhide HI2).1 (by simp)))
    have G20 := (unhide HG).step b20
    clear HG b20 hi3 x0 x1 x2 y0 y1 y2
    go_wp2
    go_ret
    exact ⟨rfl, G20.below⟩

end Go.Proofs.Qxb6601448a
