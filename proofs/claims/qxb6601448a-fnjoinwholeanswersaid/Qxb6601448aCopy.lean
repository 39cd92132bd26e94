/- The walks of copyNews, bytesOfNews, newsCountsFit. -/
import Derived.Test.Qxb6601448aClone
import Derived.Deep.RegionHeld3
namespace Go.Proofs.Qxb6601448a
open Go.RowKit
set_option linter.unusedVariables false

/-- What a ZNews holds. -/
structure News where
  round : Int
  mn : List ByteArray
  ms : List Int
  mp : List (List ByteArray)
  fn : List ByteArray
  fv : List Int

/-- The five slices of a ZNews, in memory. -/
def NewsAt (lo hi : Nat) (w : World) (c1 c2 c3 c4 c5 : Value) (n : News) : Prop :=
  StrsAt lo hi w c1 n.mn ∧ WordsAt lo hi w c2 n.ms ∧ NestAt lo hi w c3 n.mp ∧ StrsAt lo hi w c4 n.fn ∧ WordsAt lo hi w c5 n.fv

theorem NewsAt.same {lo hi : Nat} {w w' : World} {c1 c2 c3 c4 c5 : Value} {n : News} (h : NewsAt lo hi w c1 c2 c3 c4 c5 n) (hb : Same lo hi w w') : NewsAt lo hi w' c1 c2 c3 c4 c5 n :=
  ⟨h.1.same hb, h.2.1.same hb, h.2.2.1.same hb, h.2.2.2.1.same hb, h.2.2.2.2.same hb⟩
theorem NewsAt.mono {lo hi lo' hi' : Nat} {w : World} {c1 c2 c3 c4 c5 : Value} {n : News} (h : NewsAt lo hi w c1 c2 c3 c4 c5 n) (h1 : lo' ≤ lo) (h2 : hi ≤ hi') : NewsAt lo' hi' w c1 c2 c3 c4 c5 n :=
  ⟨h.1.mono h1 h2, h.2.1.mono h1 h2, h.2.2.1.mono h1 h2, h.2.2.2.1.mono h1 h2, h.2.2.2.2.mono h1 h2⟩

/-- What the cell holds, whatever it is. -/
def peek (w : World) (b o : Nat) : Value := (w.cell? ⟨b, o, none⟩).getD undef
theorem peek_eq {w : World} {b o : Nat} {v : Value} (h : w.cell? ⟨b, o, none⟩ = some v) : w.cell? ⟨b, o, none⟩ = some (peek w b o) := by simp [peek, h]

/-- The state of copyNews's statement: the parameter's box, the result's box. -/
abbrev CopyS (w : World) (c0 c1 c2 c3 c4 c5 : Value) (w' : World) : Prop :=
  w'.cell? ⟨w.heap.size, 0, none⟩ = some c0 ∧ w'.cell? ⟨w.heap.size, 1, none⟩ = some c1 ∧ w'.cell? ⟨w.heap.size, 2, none⟩ = some c2 ∧ w'.cell? ⟨w.heap.size, 3, none⟩ = some c3 ∧ w'.cell? ⟨w.heap.size, 4, none⟩ = some c4 ∧ w'.cell? ⟨w.heap.size, 5, none⟩ = some c5 ∧
  w'.cell? ⟨w.heap.size + 1, 0, none⟩ = some (peek w' (w.heap.size + 1) 0) ∧ w'.cell? ⟨w.heap.size + 1, 1, none⟩ = some (peek w' (w.heap.size + 1) 1) ∧ w'.cell? ⟨w.heap.size + 1, 2, none⟩ = some (peek w' (w.heap.size + 1) 2) ∧
  w'.cell? ⟨w.heap.size + 1, 3, none⟩ = some (peek w' (w.heap.size + 1) 3) ∧ w'.cell? ⟨w.heap.size + 1, 4, none⟩ = some (peek w' (w.heap.size + 1) 4) ∧ w'.cell? ⟨w.heap.size + 1, 5, none⟩ = some (peek w' (w.heap.size + 1) 5) ∧
  w'.frozen? ⟨w.heap.size + 1, 0, none⟩ = false ∧ w'.frozen? ⟨w.heap.size + 1, 1, none⟩ = false ∧ w'.frozen? ⟨w.heap.size + 1, 2, none⟩ = false ∧ w'.frozen? ⟨w.heap.size + 1, 3, none⟩ = false ∧ w'.frozen? ⟨w.heap.size + 1, 4, none⟩ = false ∧ w'.frozen? ⟨w.heap.size + 1, 5, none⟩ = false ∧
  w.heap.size + 2 ≤ w'.heap.size ∧ Below w.heap.size w w'

theorem CopyS.start (w : World) (c0 c1 c2 c3 c4 c5 z0 z1 z2 z3 z4 z5 : Value) : CopyS w c0 c1 c2 c3 c4 c5 ((w.alloc (.cells #[c0, c1, c2, c3, c4, c5] 27)).alloc (.cells #[z0, z1, z2, z3, z4, z5] 27)).drew := by
  have hb : Below w.heap.size w ((w.alloc (.cells #[c0, c1, c2, c3, c4, c5] 27)).alloc (.cells #[z0, z1, z2, z3, z4, z5] 27)).drew := (((Below.refl _ _).alloc (Nat.le_refl _) _).alloc (by simp) _).drew
  refine ⟨?_, ?_, ?_, ?_, ?_, ?_, peek_eq (v := z0) ?_, peek_eq (v := z1) ?_, peek_eq (v := z2) ?_, peek_eq (v := z3) ?_, peek_eq (v := z4) ?_, peek_eq (v := z5) ?_, ?_, ?_, ?_, ?_, ?_, ?_, by simp, hb⟩
  all_goals simp [go_sem]

theorem CopyS.step {w w1 w2 : World} {c0 c1 c2 c3 c4 c5 : Value} (h : CopyS w c0 c1 c2 c3 c4 c5 w1) (hb : Below w1.heap.size w1 w2) : CopyS w c0 c1 c2 c3 c4 c5 w2 := by
  obtain ⟨h0, h1, h2, h3, h4, h5, p0, p1, p2, p3, p4, p5, f0, f1, f2, f3, f4, f5, hs, hB⟩ := h
  have hc : ∀ j, w2.cell? ⟨w.heap.size, j, none⟩ = w1.cell? ⟨w.heap.size, j, none⟩ := fun j => hb.cell (by simp; omega)
  have hd : ∀ j, w2.cell? ⟨w.heap.size + 1, j, none⟩ = w1.cell? ⟨w.heap.size + 1, j, none⟩ := fun j => hb.cell (by simp; omega)
  have hf : ∀ j, w2.frozen? ⟨w.heap.size + 1, j, none⟩ = w1.frozen? ⟨w.heap.size + 1, j, none⟩ := fun j => hb.frozen (by simp; omega)
  have hz := hb.size
  exact ⟨(hc 0).trans h0, (hc 1).trans h1, (hc 2).trans h2, (hc 3).trans h3, (hc 4).trans h4, (hc 5).trans h5, peek_eq ((hd 0).trans p0), peek_eq ((hd 1).trans p1), peek_eq ((hd 2).trans p2), peek_eq ((hd 3).trans p3), peek_eq ((hd 4).trans p4), peek_eq ((hd 5).trans p5),
    (hf 0).trans f0, (hf 1).trans f1, (hf 2).trans f2, (hf 3).trans f3, (hf 4).trans f4, (hf 5).trans f5, by omega, hB.trans (hb.mono (by omega))⟩

theorem CopyS.set {w w1 : World} {c0 c1 c2 c3 c4 c5 : Value} (h : CopyS w c0 c1 c2 c3 c4 c5 w1) (j : Nat) (u : Value) : CopyS w c0 c1 c2 c3 c4 c5 (w1.setCell ⟨w.heap.size + 1, j, none⟩ u) := by
  obtain ⟨h0, h1, h2, h3, h4, h5, p0, p1, p2, p3, p4, p5, f0, f1, f2, f3, f4, f5, hs, hB⟩ := h
  have hc : ∀ j', (w1.setCell ⟨w.heap.size + 1, j, none⟩ u).cell? ⟨w.heap.size, j', none⟩ = w1.cell? ⟨w.heap.size, j', none⟩ := fun j' => World.cell?_setCell_other _ _ _ _ (by simp)
  have hd : ∀ j' v, w1.cell? ⟨w.heap.size + 1, j', none⟩ = some v → (w1.setCell ⟨w.heap.size + 1, j, none⟩ u).cell? ⟨w.heap.size + 1, j', none⟩ = some (peek (w1.setCell ⟨w.heap.size + 1, j, none⟩ u) (w.heap.size + 1) j') := fun j' v hv => by
    obtain ⟨v', hv'⟩ := cell?_setCell_some (p := ⟨w.heap.size + 1, j, none⟩) (x := u) hv
    exact peek_eq hv'
  have hf : ∀ j', (w1.setCell ⟨w.heap.size + 1, j, none⟩ u).frozen? ⟨w.heap.size + 1, j', none⟩ = w1.frozen? ⟨w.heap.size + 1, j', none⟩ := fun j' => World.frozen?_setCell _ _ _ _
  exact ⟨(hc 0).trans h0, (hc 1).trans h1, (hc 2).trans h2, (hc 3).trans h3, (hc 4).trans h4, (hc 5).trans h5, hd 0 _ p0, hd 1 _ p1, hd 2 _ p2, hd 3 _ p3, hd 4 _ p4, hd 5 _ p5,
    (hf 0).trans f0, (hf 1).trans f1, (hf 2).trans f2, (hf 3).trans f3, (hf 4).trans f4, (hf 5).trans f5, by simpa using hs, hB.setCell (by simp) _⟩

theorem CopyS.src {w w1 : World} {c0 c1 c2 c3 c4 c5 : Value} (h : CopyS w c0 c1 c2 c3 c4 c5 w1) : Below w.heap.size w w1 ∧ w.heap.size + 2 ≤ w1.heap.size := by
  obtain ⟨h0, h1, h2, h3, h4, h5, p0, p1, p2, p3, p4, p5, f0, f1, f2, f3, f4, f5, hs, hB⟩ := h
  exact ⟨hB, hs⟩

theorem cloneStrs_at {w w1 : World} {c0 c1 c2 c3 c4 c5 : Value} (hS : CopyS w c0 c1 c2 c3 c4 c5 w1) (v : Value) (ss : List ByteArray) {lo hi : Nat} (h : StrsAt lo hi w v ss) (hh : hi ≤ w.heap.size) :
    Calls Try.prog 44 #[v] w1 fun e w' => ∃ ao cap, e = .returned (.slice ao ss.length cap) ∧ StrsAt w1.heap.size w'.heap.size w' (.slice ao ss.length cap) ss ∧ Below w1.heap.size w1 w' :=
  (cloneStrs_any v ss w1 (h.same (Same.below hS.src.1 hh)) (by have := hS.src.2; omega)).mono (by
    rintro e w' ⟨v', rfl, h1, h2⟩
    obtain ⟨ao, cap, rfl⟩ := h1.shape
    exact ⟨ao, cap, rfl, h1, h2⟩)
theorem cloneWords_at {w w1 : World} {c0 c1 c2 c3 c4 c5 : Value} (hS : CopyS w c0 c1 c2 c3 c4 c5 w1) (v : Value) (zs : List Int) {lo hi : Nat} (h : WordsAt lo hi w v zs) (hh : hi ≤ w.heap.size) :
    Calls Try.prog 45 #[v] w1 fun e w' => ∃ ao cap, e = .returned (.slice ao zs.length cap) ∧ WordsAt w1.heap.size w'.heap.size w' (.slice ao zs.length cap) zs ∧ Below w1.heap.size w1 w' :=
  (cloneWords_any v zs w1 (h.same (Same.below hS.src.1 hh)) (by have := hS.src.2; omega)).mono (by
    rintro e w' ⟨v', rfl, h1, h2⟩
    obtain ⟨ao, cap, rfl⟩ := h1.shape
    exact ⟨ao, cap, rfl, h1, h2⟩)
theorem cloneNested_at {w w1 : World} {c0 c1 c2 c3 c4 c5 : Value} (hS : CopyS w c0 c1 c2 c3 c4 c5 w1) (v : Value) (sss : List (List ByteArray)) {lo hi : Nat} (h : NestAt lo hi w v sss) (hh : hi ≤ w.heap.size) :
    Calls Try.prog 46 #[v] w1 fun e w' => ∃ ao cap, e = .returned (.slice ao sss.length cap) ∧ NestAt w1.heap.size w'.heap.size w' (.slice ao sss.length cap) sss ∧ Below w1.heap.size w1 w' :=
  (cloneNested_any v sss w1 (h.same (Same.below hS.src.1 hh)) (by have := hS.src.2; omega)).mono (by
    rintro e w' ⟨v', rfl, h1, h2⟩
    obtain ⟨ao, cap, rfl⟩ := h1.shape
    exact ⟨ao, cap, rfl, h1, h2⟩)

theorem copy_end {W0 w1 w2 w3 w4 w5 : World} {v1 v2 v3 v4 v5 : Value} {n : News} (b1 : Below W0.heap.size W0 w1) (b2 : Below w1.heap.size w1 w2) (b3 : Below w2.heap.size w2 w3) (b4 : Below w3.heap.size w3 w4) (b5 : Below w4.heap.size w4 w5)
    (t1 : StrsAt W0.heap.size w1.heap.size w1 v1 n.mn) (t2 : WordsAt w1.heap.size w2.heap.size w2 v2 n.ms) (t3 : NestAt w2.heap.size w3.heap.size w3 v3 n.mp) (t4 : StrsAt w3.heap.size w4.heap.size w4 v4 n.fn) (t5 : WordsAt w4.heap.size w5.heap.size w5 v5 n.fv) :
    NewsAt W0.heap.size w5.heap.size w5 v1 v2 v3 v4 v5 n := by
  have z1 := b1.size
  have z2 := b2.size
  have z3 := b3.size
  have z4 := b4.size
  have z5 := b5.size
  exact ⟨((((t1.same (Same.below b2 (Nat.le_refl _))).same (Same.below b3 (by omega))).same (Same.below b4 (by omega))).same (Same.below b5 (by omega))).mono (by omega) (by omega),
    (((t2.same (Same.below b3 (Nat.le_refl _))).same (Same.below b4 (by omega))).same (Same.below b5 (by omega))).mono (by omega) (by omega),
    ((t3.same (Same.below b4 (Nat.le_refl _))).same (Same.below b5 (by omega))).mono (by omega) (by omega),
    (t4.same (Same.below b5 (Nat.le_refl _))).mono (by omega) (by omega), t5.mono (by omega) (by omega)⟩

/-- The result's box of copyNews is as it was made till the statement's own store. -/
theorem copy_box {w w1 w2 w3 w4 w5 : World} {c0 c1 c2 c3 c4 c5 z0 z1 z2 z3 z4 z5 : Value}
    (b1 : Below ((w.alloc (.cells #[c0, c1, c2, c3, c4, c5] 27)).alloc (.cells #[z0, z1, z2, z3, z4, z5] 27)).drew.heap.size ((w.alloc (.cells #[c0, c1, c2, c3, c4, c5] 27)).alloc (.cells #[z0, z1, z2, z3, z4, z5] 27)).drew w1) (b2 : Below w1.heap.size w1 w2) (b3 : Below w2.heap.size w2 w3) (b4 : Below w3.heap.size w3 w4) (b5 : Below w4.heap.size w4 w5) :
    w5.cell? ⟨w.heap.size + 1, 0, none⟩ = some z0 ∧ w5.cell? ⟨w.heap.size + 1, 1, none⟩ = some z1 ∧ w5.cell? ⟨w.heap.size + 1, 2, none⟩ = some z2 ∧ w5.cell? ⟨w.heap.size + 1, 3, none⟩ = some z3 ∧ w5.cell? ⟨w.heap.size + 1, 4, none⟩ = some z4 ∧ w5.cell? ⟨w.heap.size + 1, 5, none⟩ = some z5 ∧ w.heap.size + 2 ≤ w5.heap.size := by
  have z1 := b1.size
  have z2 := b2.size
  have z3 := b3.size
  have z4 := b4.size
  have z5 := b5.size
  simp at z1
  have e : ∀ j, w5.cell? ⟨w.heap.size + 1, j, none⟩ = ((w.alloc (.cells #[c0, c1, c2, c3, c4, c5] 27)).alloc (.cells #[z0, _, _, _, _, _] 27)).drew.cell? ⟨w.heap.size + 1, j, none⟩ := fun j => by
    rw [b5.cell (by simp; omega), b4.cell (by simp; omega), b3.cell (by simp; omega), b2.cell (by simp; omega), b1.cell (by simp)]
  refine ⟨(e 0).trans ?_, (e 1).trans ?_, (e 2).trans ?_, (e 3).trans ?_, (e 4).trans ?_, (e 5).trans ?_, by omega⟩
  all_goals simp [go_sem]

theorem news_six {lo hi B : Nat} {w : World} {v1 v2 v3 v4 v5 : Value} {n : News} (h : NewsAt lo hi w v1 v2 v3 v4 v5 n) (hB : B < lo) (x0 x1 x2 x3 x4 x5 : Value) :
    NewsAt lo hi ((((((w.setCell ⟨B, 0, none⟩ x0).setCell ⟨B, 1, none⟩ x1).setCell ⟨B, 2, none⟩ x2).setCell ⟨B, 3, none⟩ x3).setCell ⟨B, 4, none⟩ x4).setCell ⟨B, 5, none⟩ x5) v1 v2 v3 v4 v5 n :=
  h.same ((((((((Same.refl _ _ _).setCell _ _ (Or.inl hB)).setCell _ _ (Or.inl hB)).setCell _ _ (Or.inl hB)).setCell _ _ (Or.inl hB)).setCell _ _ (Or.inl hB)).setCell _ _ (Or.inl hB)))

set_option maxHeartbeats 1600000 in
set_option maxRecDepth 100000 in
theorem copyNews_any (r : Int) (c1 c2 c3 c4 c5 : Value) (n : News) (w : World) {lo hi : Nat} (h : NewsAt lo hi w c1 c2 c3 c4 c5 n) (hh : hi ≤ w.heap.size) :
    Calls Try.prog 12 #[.agg #[.int .u64 r, c1, c2, c3, c4, c5]] w fun e w' => ∃ d1 d2 d3 d4 d5, e = .returned (.agg #[.int .u64 r, d1, d2, d3, d4, d5]) ∧ NewsAt w.heap.size w'.heap.size w' d1 d2 d3 d4 d5 n ∧ Below w.heap.size w w' := by
  obtain ⟨g1, g2, g3, g4, g5⟩ := h
  go_enter Try.func12, Try.ntmps12
  go_wp2_with fail
  go_region_held3 (fun w' => w'.cell? ⟨w.heap.size, 0, none⟩ = some (.int .u64 r) ∧ w'.cell? ⟨w.heap.size, 1, none⟩ = some c1 ∧ w'.cell? ⟨w.heap.size, 2, none⟩ = some c2 ∧ w'.cell? ⟨w.heap.size, 3, none⟩ = some c3 ∧ w'.cell? ⟨w.heap.size, 4, none⟩ = some c4 ∧ w'.cell? ⟨w.heap.size, 5, none⟩ = some c5 ∧ w'.cell? ⟨w.heap.size + 1, 0, none⟩ = some (peek w' (w.heap.size + 1) 0) ∧ w'.cell? ⟨w.heap.size + 1, 1, none⟩ = some (peek w' (w.heap.size + 1) 1) ∧ w'.cell? ⟨w.heap.size + 1, 2, none⟩ = some (peek w' (w.heap.size + 1) 2) ∧ w'.cell? ⟨w.heap.size + 1, 3, none⟩ = some (peek w' (w.heap.size + 1) 3) ∧ w'.cell? ⟨w.heap.size + 1, 4, none⟩ = some (peek w' (w.heap.size + 1) 4) ∧ w'.cell? ⟨w.heap.size + 1, 5, none⟩ = some (peek w' (w.heap.size + 1) 5) ∧ w'.frozen? ⟨w.heap.size + 1, 0, none⟩ = false ∧ w'.frozen? ⟨w.heap.size + 1, 1, none⟩ = false ∧ w'.frozen? ⟨w.heap.size + 1, 2, none⟩ = false ∧ w'.frozen? ⟨w.heap.size + 1, 3, none⟩ = false ∧ w'.frozen? ⟨w.heap.size + 1, 4, none⟩ = false ∧ w'.frozen? ⟨w.heap.size + 1, 5, none⟩ = false ∧ w.heap.size + 2 ≤ w'.heap.size ∧ Below w.heap.size w w') (first | with_reducible exact CopyS.step (by assumption) (by assumption) | with_reducible exact CopyS.start _ _ _ _ _ _ _ _ _ _ _ _ _ | (with_reducible (repeat refine CopyS.set ?_ _ _); assumption))
    (first | (go_at_call_of 44 c1; refine (cloneStrs_at (c0 := .int .u64 r) (c1 := c1) (c2 := c2) (c3 := c3) (c4 := c4) (c5 := c5) ?_ c1 n.mn g1 hh).mono ?_; assumption; rintro e w' ⟨a1, p1, rfl, t1, b1⟩) | (go_at_call 45; first | (go_at_call_of 45 c2; refine (cloneWords_at (c0 := .int .u64 r) (c1 := c1) (c2 := c2) (c3 := c3) (c4 := c4) (c5 := c5) ?_ c2 n.ms g2 hh).mono ?_; assumption; rintro e w' ⟨a2, p2, rfl, t2, b2⟩) | (refine (cloneWords_at (c0 := .int .u64 r) (c1 := c1) (c2 := c2) (c3 := c3) (c4 := c4) (c5 := c5) ?_ c5 n.fv g5 hh).mono ?_; assumption; rintro e w' ⟨a5, p5, rfl, t5, b5⟩)) | (go_at_call 46; refine (cloneNested_at (c0 := .int .u64 r) (c1 := c1) (c2 := c2) (c3 := c3) (c4 := c4) (c5 := c5) ?_ c3 n.mp g3 hh).mono ?_; assumption; rintro e w' ⟨a3, p3, rfl, t3, b3⟩) | (go_at_call_of 44 c4; refine (cloneStrs_at (c0 := .int .u64 r) (c1 := c1) (c2 := c2) (c3 := c3) (c4 := c4) (c5 := c5) ?_ c4 n.fn g4 hh).mono ?_; assumption; rintro e w' ⟨a4, p4, rfl, t4, b4⟩))
  have hE := copy_end b1 b2 b3 b4 b5 t1 t2 t3 t4 t5
  obtain ⟨q0, q1, q2, q3, q4, q5, q6⟩ := copy_box b1 b2 b3 b4 b5
  have hB : Below w.heap.size w w' := (((((((Below.refl _ w).alloc (Nat.le_refl _) _).alloc (by simp) _).drew.trans (b1.mono (by simp; omega))).trans (b2.mono (by have := b1.size; simp at this; omega))).trans (b3.mono (by have := b1.size; have := b2.size; simp at *; omega))).trans (b4.mono (by have := b1.size; have := b2.size; have := b3.size; simp at *; omega))).trans (b5.mono (by have := b1.size; have := b2.size; have := b3.size; have := b4.size; simp at *; omega))
  have HE := hide hE
  have HB := hide hB
  clear hE hB t1 t2 t3 t4 t5 b1 b2 b3 b4 b5 g1 g2 g3 g4 g5
  go_wp2
  refine bodyPost_ret (v := .agg #[.int .u64 r, .slice a1 n.mn.length p1, .slice a2 n.ms.length p2, .slice a3 n.mp.length p3, .slice a4 n.fn.length p4, .slice a5 n.fv.length p5]) (by simp [results, Try.results12, go_sem, q0, q1, q2, q3, q4, q5]) rfl ⟨_, _, _, _, _, rfl, ?_, ?_⟩
  · have h6 := news_six ((unhide HE).mono (Nat.le_refl _) (Nat.le_refl _)) (B := w.heap.size + 1) (by simp) (.int .u64 r) (.slice a1 n.mn.length p1) (.slice a2 n.ms.length p2) (.slice a3 n.mp.length p3) (.slice a4 n.fn.length p4) (.slice a5 n.fv.length p5)
    exact h6.mono (by simp; omega) (by simp)
  · exact ((((((unhide HB).setCell (by simp) _).setCell (by simp) _).setCell (by simp) _).setCell (by simp) _).setCell (by simp) _).setCell (by simp) _

end Go.Proofs.Qxb6601448a
