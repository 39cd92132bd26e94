/- The walks of copySnap (19), copySite (20). -/
import Derived.Test.Qxb6601448aSmall
namespace Go.Proofs.Qxb6601448a
open Go.RowKit
set_option linter.unusedVariables false

/-- A statement's state: the parameter's box, the result's box. -/
abbrev CSnapS (w : World) (c0 c1 c2 c3 c4 c5 c6 c7 : Value) (w' : World) : Prop :=
  w'.cell? ⟨w.heap.size, 0, none⟩ = some c0 ∧ w'.cell? ⟨w.heap.size, 1, none⟩ = some c1 ∧ w'.cell? ⟨w.heap.size, 2, none⟩ = some c2 ∧ w'.cell? ⟨w.heap.size, 3, none⟩ = some c3 ∧ w'.cell? ⟨w.heap.size, 4, none⟩ = some c4 ∧ w'.cell? ⟨w.heap.size, 5, none⟩ = some c5 ∧ w'.cell? ⟨w.heap.size, 6, none⟩ = some c6 ∧ w'.cell? ⟨w.heap.size, 7, none⟩ = some c7 ∧ w'.cell? ⟨w.heap.size + 1, 0, none⟩ = some (peek w' (w.heap.size + 1) 0) ∧ w'.cell? ⟨w.heap.size + 1, 1, none⟩ = some (peek w' (w.heap.size + 1) 1) ∧ w'.cell? ⟨w.heap.size + 1, 2, none⟩ = some (peek w' (w.heap.size + 1) 2) ∧ w'.cell? ⟨w.heap.size + 1, 3, none⟩ = some (peek w' (w.heap.size + 1) 3) ∧ w'.cell? ⟨w.heap.size + 1, 4, none⟩ = some (peek w' (w.heap.size + 1) 4) ∧ w'.cell? ⟨w.heap.size + 1, 5, none⟩ = some (peek w' (w.heap.size + 1) 5) ∧ w'.cell? ⟨w.heap.size + 1, 6, none⟩ = some (peek w' (w.heap.size + 1) 6) ∧ w'.cell? ⟨w.heap.size + 1, 7, none⟩ = some (peek w' (w.heap.size + 1) 7) ∧ w'.frozen? ⟨w.heap.size + 1, 0, none⟩ = false ∧ w'.frozen? ⟨w.heap.size + 1, 1, none⟩ = false ∧ w'.frozen? ⟨w.heap.size + 1, 2, none⟩ = false ∧ w'.frozen? ⟨w.heap.size + 1, 3, none⟩ = false ∧ w'.frozen? ⟨w.heap.size + 1, 4, none⟩ = false ∧ w'.frozen? ⟨w.heap.size + 1, 5, none⟩ = false ∧ w'.frozen? ⟨w.heap.size + 1, 6, none⟩ = false ∧ w'.frozen? ⟨w.heap.size + 1, 7, none⟩ = false ∧ w.heap.size + 2 ≤ w'.heap.size ∧ Below w.heap.size w w'

theorem CSnapS.start (w : World) (c0 c1 c2 c3 c4 c5 c6 c7 z0 z1 z2 z3 z4 z5 z6 z7 : Value) : CSnapS w c0 c1 c2 c3 c4 c5 c6 c7 ((w.alloc (.cells #[c0, c1, c2, c3, c4, c5, c6, c7] 40)).alloc (.cells #[z0, z1, z2, z3, z4, z5, z6, z7] 40)).drew := by
  have hb : Below w.heap.size w ((w.alloc (.cells #[c0, c1, c2, c3, c4, c5, c6, c7] 40)).alloc (.cells #[z0, z1, z2, z3, z4, z5, z6, z7] 40)).drew := (((Below.refl _ _).alloc (Nat.le_refl _) _).alloc (by simp) _).drew
  refine ⟨?_, ?_, ?_, ?_, ?_, ?_, ?_, ?_, peek_eq (v := z0) ?_, peek_eq (v := z1) ?_, peek_eq (v := z2) ?_, peek_eq (v := z3) ?_, peek_eq (v := z4) ?_, peek_eq (v := z5) ?_, peek_eq (v := z6) ?_, peek_eq (v := z7) ?_, ?_, ?_, ?_, ?_, ?_, ?_, ?_, ?_, by simp, hb⟩
  all_goals simp [go_sem]

theorem CSnapS.step {w w1 w2 : World} {c0 c1 c2 c3 c4 c5 c6 c7 : Value} (h : CSnapS w c0 c1 c2 c3 c4 c5 c6 c7 w1) (hb : Below w1.heap.size w1 w2) : CSnapS w c0 c1 c2 c3 c4 c5 c6 c7 w2 := by
  obtain ⟨h0, h1, h2, h3, h4, h5, h6, h7, p0, p1, p2, p3, p4, p5, p6, p7, f0, f1, f2, f3, f4, f5, f6, f7, hs, hB⟩ := h
  have hc : ∀ j, w2.cell? ⟨w.heap.size, j, none⟩ = w1.cell? ⟨w.heap.size, j, none⟩ := fun j => hb.cell (by simp; omega)
  have hd : ∀ j, w2.cell? ⟨w.heap.size + 1, j, none⟩ = w1.cell? ⟨w.heap.size + 1, j, none⟩ := fun j => hb.cell (by simp; omega)
  have hf : ∀ j, w2.frozen? ⟨w.heap.size + 1, j, none⟩ = w1.frozen? ⟨w.heap.size + 1, j, none⟩ := fun j => hb.frozen (by simp; omega)
  have hz := hb.size
  exact ⟨(hc 0).trans h0, (hc 1).trans h1, (hc 2).trans h2, (hc 3).trans h3, (hc 4).trans h4, (hc 5).trans h5, (hc 6).trans h6, (hc 7).trans h7, peek_eq ((hd 0).trans p0), peek_eq ((hd 1).trans p1), peek_eq ((hd 2).trans p2), peek_eq ((hd 3).trans p3), peek_eq ((hd 4).trans p4), peek_eq ((hd 5).trans p5), peek_eq ((hd 6).trans p6), peek_eq ((hd 7).trans p7), (hf 0).trans f0, (hf 1).trans f1, (hf 2).trans f2, (hf 3).trans f3, (hf 4).trans f4, (hf 5).trans f5, (hf 6).trans f6, (hf 7).trans f7, by omega, hB.trans (hb.mono (by omega))⟩

theorem CSnapS.set {w w1 : World} {c0 c1 c2 c3 c4 c5 c6 c7 : Value} (h : CSnapS w c0 c1 c2 c3 c4 c5 c6 c7 w1) (j : Nat) (u : Value) : CSnapS w c0 c1 c2 c3 c4 c5 c6 c7 (w1.setCell ⟨w.heap.size + 1, j, none⟩ u) := by
  obtain ⟨h0, h1, h2, h3, h4, h5, h6, h7, p0, p1, p2, p3, p4, p5, p6, p7, f0, f1, f2, f3, f4, f5, f6, f7, hs, hB⟩ := h
  have hc : ∀ j', (w1.setCell ⟨w.heap.size + 1, j, none⟩ u).cell? ⟨w.heap.size, j', none⟩ = w1.cell? ⟨w.heap.size, j', none⟩ := fun j' => World.cell?_setCell_other _ _ _ _ (by simp)
  have hd : ∀ j' v, w1.cell? ⟨w.heap.size + 1, j', none⟩ = some v → (w1.setCell ⟨w.heap.size + 1, j, none⟩ u).cell? ⟨w.heap.size + 1, j', none⟩ = some (peek (w1.setCell ⟨w.heap.size + 1, j, none⟩ u) (w.heap.size + 1) j') := fun j' v hv => by
    obtain ⟨v', hv'⟩ := cell?_setCell_some (p := ⟨w.heap.size + 1, j, none⟩) (x := u) hv
    exact peek_eq hv'
  have hf : ∀ j', (w1.setCell ⟨w.heap.size + 1, j, none⟩ u).frozen? ⟨w.heap.size + 1, j', none⟩ = w1.frozen? ⟨w.heap.size + 1, j', none⟩ := fun j' => World.frozen?_setCell _ _ _ _
  exact ⟨(hc 0).trans h0, (hc 1).trans h1, (hc 2).trans h2, (hc 3).trans h3, (hc 4).trans h4, (hc 5).trans h5, (hc 6).trans h6, (hc 7).trans h7, hd 0 _ p0, hd 1 _ p1, hd 2 _ p2, hd 3 _ p3, hd 4 _ p4, hd 5 _ p5, hd 6 _ p6, hd 7 _ p7, (hf 0).trans f0, (hf 1).trans f1, (hf 2).trans f2, (hf 3).trans f3, (hf 4).trans f4, (hf 5).trans f5, (hf 6).trans f6, (hf 7).trans f7, by simpa using hs, hB.setCell (by simp) _⟩

theorem CSnapS.src {w w1 : World} {c0 c1 c2 c3 c4 c5 c6 c7 : Value} (h : CSnapS w c0 c1 c2 c3 c4 c5 c6 c7 w1) : Below w.heap.size w w1 ∧ w.heap.size + 2 ≤ w1.heap.size := by
  obtain ⟨h0, h1, h2, h3, h4, h5, h6, h7, p0, p1, p2, p3, p4, p5, p6, p7, f0, f1, f2, f3, f4, f5, f6, f7, hs, hB⟩ := h
  exact ⟨hB, hs⟩

/-- The result's box is as it was made while what was there is kept. -/
theorem CSnapS.box {w w5 : World} {c0 c1 c2 c3 c4 c5 c6 c7 z0 z1 z2 z3 z4 z5 z6 z7 : Value} (b : Below (w.heap.size + 2) ((w.alloc (.cells #[c0, c1, c2, c3, c4, c5, c6, c7] 40)).alloc (.cells #[z0, z1, z2, z3, z4, z5, z6, z7] 40)).drew w5) : w5.cell? ⟨w.heap.size + 1, 0, none⟩ = some z0 ∧ w5.cell? ⟨w.heap.size + 1, 1, none⟩ = some z1 ∧ w5.cell? ⟨w.heap.size + 1, 2, none⟩ = some z2 ∧ w5.cell? ⟨w.heap.size + 1, 3, none⟩ = some z3 ∧ w5.cell? ⟨w.heap.size + 1, 4, none⟩ = some z4 ∧ w5.cell? ⟨w.heap.size + 1, 5, none⟩ = some z5 ∧ w5.cell? ⟨w.heap.size + 1, 6, none⟩ = some z6 ∧ w5.cell? ⟨w.heap.size + 1, 7, none⟩ = some z7 := by
  refine ⟨(b.cell (by simp)).trans ?_, (b.cell (by simp)).trans ?_, (b.cell (by simp)).trans ?_, (b.cell (by simp)).trans ?_, (b.cell (by simp)).trans ?_, (b.cell (by simp)).trans ?_, (b.cell (by simp)).trans ?_, (b.cell (by simp)).trans ?_⟩
  all_goals simp [go_sem]

theorem CSnapS.stored {w w1 : World} {c0 c1 c2 c3 c4 c5 c6 c7 : Value} (h : CSnapS w c0 c1 c2 c3 c4 c5 c6 c7 w1) (x0 x1 x2 x3 x4 x5 x6 x7 : Value) : CSnapS w c0 c1 c2 c3 c4 c5 c6 c7 ((((((((w1.setCell ⟨w.heap.size + 1, 0, none⟩ x0).setCell ⟨w.heap.size + 1, 1, none⟩ x1).setCell ⟨w.heap.size + 1, 2, none⟩ x2).setCell ⟨w.heap.size + 1, 3, none⟩ x3).setCell ⟨w.heap.size + 1, 4, none⟩ x4).setCell ⟨w.heap.size + 1, 5, none⟩ x5).setCell ⟨w.heap.size + 1, 6, none⟩ x6).setCell ⟨w.heap.size + 1, 7, none⟩ x7) := ((((((((h.set 0 x0).set 1 x1).set 2 x2).set 3 x3).set 4 x4).set 5 x5).set 6 x6).set 7 x7)

/-- A statement's state: the parameter's box, the result's box. -/
abbrev CSiteS (w : World) (c0 c1 c2 : Value) (w' : World) : Prop :=
  w'.cell? ⟨w.heap.size, 0, none⟩ = some c0 ∧ w'.cell? ⟨w.heap.size, 1, none⟩ = some c1 ∧ w'.cell? ⟨w.heap.size, 2, none⟩ = some c2 ∧ w'.cell? ⟨w.heap.size + 1, 0, none⟩ = some (peek w' (w.heap.size + 1) 0) ∧ w'.cell? ⟨w.heap.size + 1, 1, none⟩ = some (peek w' (w.heap.size + 1) 1) ∧ w'.cell? ⟨w.heap.size + 1, 2, none⟩ = some (peek w' (w.heap.size + 1) 2) ∧ w'.frozen? ⟨w.heap.size + 1, 0, none⟩ = false ∧ w'.frozen? ⟨w.heap.size + 1, 1, none⟩ = false ∧ w'.frozen? ⟨w.heap.size + 1, 2, none⟩ = false ∧ w.heap.size + 2 ≤ w'.heap.size ∧ Below w.heap.size w w'

theorem CSiteS.start (w : World) (c0 c1 c2 z0 z1 z2 : Value) : CSiteS w c0 c1 c2 ((w.alloc (.cells #[c0, c1, c2] 42)).alloc (.cells #[z0, z1, z2] 42)).drew := by
  have hb : Below w.heap.size w ((w.alloc (.cells #[c0, c1, c2] 42)).alloc (.cells #[z0, z1, z2] 42)).drew := (((Below.refl _ _).alloc (Nat.le_refl _) _).alloc (by simp) _).drew
  refine ⟨?_, ?_, ?_, peek_eq (v := z0) ?_, peek_eq (v := z1) ?_, peek_eq (v := z2) ?_, ?_, ?_, ?_, by simp, hb⟩
  all_goals simp [go_sem]

theorem CSiteS.step {w w1 w2 : World} {c0 c1 c2 : Value} (h : CSiteS w c0 c1 c2 w1) (hb : Below w1.heap.size w1 w2) : CSiteS w c0 c1 c2 w2 := by
  obtain ⟨h0, h1, h2, p0, p1, p2, f0, f1, f2, hs, hB⟩ := h
  have hc : ∀ j, w2.cell? ⟨w.heap.size, j, none⟩ = w1.cell? ⟨w.heap.size, j, none⟩ := fun j => hb.cell (by simp; omega)
  have hd : ∀ j, w2.cell? ⟨w.heap.size + 1, j, none⟩ = w1.cell? ⟨w.heap.size + 1, j, none⟩ := fun j => hb.cell (by simp; omega)
  have hf : ∀ j, w2.frozen? ⟨w.heap.size + 1, j, none⟩ = w1.frozen? ⟨w.heap.size + 1, j, none⟩ := fun j => hb.frozen (by simp; omega)
  have hz := hb.size
  exact ⟨(hc 0).trans h0, (hc 1).trans h1, (hc 2).trans h2, peek_eq ((hd 0).trans p0), peek_eq ((hd 1).trans p1), peek_eq ((hd 2).trans p2), (hf 0).trans f0, (hf 1).trans f1, (hf 2).trans f2, by omega, hB.trans (hb.mono (by omega))⟩

theorem CSiteS.set {w w1 : World} {c0 c1 c2 : Value} (h : CSiteS w c0 c1 c2 w1) (j : Nat) (u : Value) : CSiteS w c0 c1 c2 (w1.setCell ⟨w.heap.size + 1, j, none⟩ u) := by
  obtain ⟨h0, h1, h2, p0, p1, p2, f0, f1, f2, hs, hB⟩ := h
  have hc : ∀ j', (w1.setCell ⟨w.heap.size + 1, j, none⟩ u).cell? ⟨w.heap.size, j', none⟩ = w1.cell? ⟨w.heap.size, j', none⟩ := fun j' => World.cell?_setCell_other _ _ _ _ (by simp)
  have hd : ∀ j' v, w1.cell? ⟨w.heap.size + 1, j', none⟩ = some v → (w1.setCell ⟨w.heap.size + 1, j, none⟩ u).cell? ⟨w.heap.size + 1, j', none⟩ = some (peek (w1.setCell ⟨w.heap.size + 1, j, none⟩ u) (w.heap.size + 1) j') := fun j' v hv => by
    obtain ⟨v', hv'⟩ := cell?_setCell_some (p := ⟨w.heap.size + 1, j, none⟩) (x := u) hv
    exact peek_eq hv'
  have hf : ∀ j', (w1.setCell ⟨w.heap.size + 1, j, none⟩ u).frozen? ⟨w.heap.size + 1, j', none⟩ = w1.frozen? ⟨w.heap.size + 1, j', none⟩ := fun j' => World.frozen?_setCell _ _ _ _
  exact ⟨(hc 0).trans h0, (hc 1).trans h1, (hc 2).trans h2, hd 0 _ p0, hd 1 _ p1, hd 2 _ p2, (hf 0).trans f0, (hf 1).trans f1, (hf 2).trans f2, by simpa using hs, hB.setCell (by simp) _⟩

theorem CSiteS.src {w w1 : World} {c0 c1 c2 : Value} (h : CSiteS w c0 c1 c2 w1) : Below w.heap.size w w1 ∧ w.heap.size + 2 ≤ w1.heap.size := by
  obtain ⟨h0, h1, h2, p0, p1, p2, f0, f1, f2, hs, hB⟩ := h
  exact ⟨hB, hs⟩

/-- The result's box is as it was made while what was there is kept. -/
theorem CSiteS.box {w w5 : World} {c0 c1 c2 z0 z1 z2 : Value} (b : Below (w.heap.size + 2) ((w.alloc (.cells #[c0, c1, c2] 42)).alloc (.cells #[z0, z1, z2] 42)).drew w5) : w5.cell? ⟨w.heap.size + 1, 0, none⟩ = some z0 ∧ w5.cell? ⟨w.heap.size + 1, 1, none⟩ = some z1 ∧ w5.cell? ⟨w.heap.size + 1, 2, none⟩ = some z2 := by
  refine ⟨(b.cell (by simp)).trans ?_, (b.cell (by simp)).trans ?_, (b.cell (by simp)).trans ?_⟩
  all_goals simp [go_sem]

theorem CSiteS.stored {w w1 : World} {c0 c1 c2 : Value} (h : CSiteS w c0 c1 c2 w1) (x0 x1 x2 : Value) : CSiteS w c0 c1 c2 (((w1.setCell ⟨w.heap.size + 1, 0, none⟩ x0).setCell ⟨w.heap.size + 1, 1, none⟩ x1).setCell ⟨w.heap.size + 1, 2, none⟩ x2) := (((h.set 0 x0).set 1 x1).set 2 x2)

set_option maxRecDepth 100000 in
set_option maxHeartbeats 1600000 in
theorem copySnap_any (r sv : Int) (sn : ByteArray) (c1 c2 c3 c4 c5 : Value) (n : News) (w : World) {lo hi : Nat} (h : NewsAt lo hi w c1 c2 c3 c4 c5 n) (hh : hi ≤ w.heap.size) :
    Calls Try.prog 19 #[.agg #[.int .u64 r, c1, c2, c3, c4, c5, .string sn, .int .u64 sv]] w fun e w' => ∃ d1 d2 d3 d4 d5, e = .returned (.agg #[.int .u64 r, d1, d2, d3, d4, d5, .string sn, .int .u64 sv]) ∧ NewsAt w.heap.size w'.heap.size w' d1 d2 d3 d4 d5 n ∧ Below w.heap.size w w' := by
  have k1 : ∀ w1, CSnapS w (.int .u64 r) c1 c2 c3 c4 c5 (.string sn) (.int .u64 sv) w1 → Calls Try.prog 12 #[.agg #[.int .u64 r, c1, c2, c3, c4, c5]] w1 fun e w' => ∃ a1 p1 a2 p2 a3 p3 a4 p4 a5 p5, e = .returned (.agg #[.int .u64 r, .slice a1 n.mn.length p1, .slice a2 n.ms.length p2, .slice a3 n.mp.length p3, .slice a4 n.fn.length p4, .slice a5 n.fv.length p5]) ∧ NewsAt w1.heap.size w'.heap.size w' (.slice a1 n.mn.length p1) (.slice a2 n.ms.length p2) (.slice a3 n.mp.length p3) (.slice a4 n.fn.length p4) (.slice a5 n.fv.length p5) n ∧ Below w1.heap.size w1 w' := fun w1 hS => (copyNews_any r c1 c2 c3 c4 c5 n w1 (h.same (Same.below hS.src.1 hh)) (by have := hS.src.2; omega)).mono (by
    rintro e w' ⟨d1, d2, d3, d4, d5, rfl, h1, h2⟩
    obtain ⟨a1, p1, rfl⟩ := h1.1.shape
    obtain ⟨a2, p2, rfl⟩ := h1.2.1.shape
    obtain ⟨a3, p3, rfl⟩ := h1.2.2.1.shape
    obtain ⟨a4, p4, rfl⟩ := h1.2.2.2.1.shape
    obtain ⟨a5, p5, rfl⟩ := h1.2.2.2.2.shape
    exact ⟨a1, p1, a2, p2, a3, p3, a4, p4, a5, p5, rfl, h1, h2⟩)
  have K1 := hide k1
  clear k1 h
  go_enter Try.func19, Try.ntmps19
  go_wp2_with fail
  go_region_held3 (fun w' => w'.cell? ⟨w.heap.size, 0, none⟩ = some (.int .u64 r) ∧ w'.cell? ⟨w.heap.size, 1, none⟩ = some c1 ∧ w'.cell? ⟨w.heap.size, 2, none⟩ = some c2 ∧ w'.cell? ⟨w.heap.size, 3, none⟩ = some c3 ∧ w'.cell? ⟨w.heap.size, 4, none⟩ = some c4 ∧ w'.cell? ⟨w.heap.size, 5, none⟩ = some c5 ∧ w'.cell? ⟨w.heap.size, 6, none⟩ = some (.string sn) ∧ w'.cell? ⟨w.heap.size, 7, none⟩ = some (.int .u64 sv) ∧ w'.cell? ⟨w.heap.size + 1, 0, none⟩ = some (peek w' (w.heap.size + 1) 0) ∧ w'.cell? ⟨w.heap.size + 1, 1, none⟩ = some (peek w' (w.heap.size + 1) 1) ∧ w'.cell? ⟨w.heap.size + 1, 2, none⟩ = some (peek w' (w.heap.size + 1) 2) ∧ w'.cell? ⟨w.heap.size + 1, 3, none⟩ = some (peek w' (w.heap.size + 1) 3) ∧ w'.cell? ⟨w.heap.size + 1, 4, none⟩ = some (peek w' (w.heap.size + 1) 4) ∧ w'.cell? ⟨w.heap.size + 1, 5, none⟩ = some (peek w' (w.heap.size + 1) 5) ∧ w'.cell? ⟨w.heap.size + 1, 6, none⟩ = some (peek w' (w.heap.size + 1) 6) ∧ w'.cell? ⟨w.heap.size + 1, 7, none⟩ = some (peek w' (w.heap.size + 1) 7) ∧ w'.frozen? ⟨w.heap.size + 1, 0, none⟩ = false ∧ w'.frozen? ⟨w.heap.size + 1, 1, none⟩ = false ∧ w'.frozen? ⟨w.heap.size + 1, 2, none⟩ = false ∧ w'.frozen? ⟨w.heap.size + 1, 3, none⟩ = false ∧ w'.frozen? ⟨w.heap.size + 1, 4, none⟩ = false ∧ w'.frozen? ⟨w.heap.size + 1, 5, none⟩ = false ∧ w'.frozen? ⟨w.heap.size + 1, 6, none⟩ = false ∧ w'.frozen? ⟨w.heap.size + 1, 7, none⟩ = false ∧ w.heap.size + 2 ≤ w'.heap.size ∧ Below w.heap.size w w') (first | with_reducible assumption | with_reducible exact CSnapS.step (w := w) (c0 := .int .u64 r) (c1 := c1) (c2 := c2) (c3 := c3) (c4 := c4) (c5 := c5) (c6 := .string sn) (c7 := .int .u64 sv) (by assumption) (by assumption) | with_reducible exact CSnapS.start w (.int .u64 r) c1 c2 c3 c4 c5 (.string sn) (.int .u64 sv) (.int .u64 0) (.slice none 0 0) (.slice none 0 0) (.slice none 0 0) (.slice none 0 0) (.slice none 0 0) (.string ⟨#[]⟩) (.int .u64 0) | with_reducible exact CSnapS.stored (w := w) (c0 := .int .u64 r) (c1 := c1) (c2 := c2) (c3 := c3) (c4 := c4) (c5 := c5) (c6 := .string sn) (c7 := .int .u64 sv) (by assumption) _ _ _ _ _ _ _ _) (first | (go_at_call 12; refine (unhide K1 _ ?_).mono ?_; assumption; rintro e w1 ⟨a1, p1, a2, p2, a3, p3, a4, p4, a5, p5, rfl, t1, b1⟩))
  obtain ⟨q0, q1, q2, q3, q4, q5, q6, q7⟩ := CSnapS.box (b1.mono (by simp))
  have HB := hide ((((Below.refl _ w).alloc (Nat.le_refl _) (.cells #[.int .u64 r, c1, c2, c3, c4, c5, .string sn, .int .u64 sv] 40)).alloc (by simp) (.cells #[.int .u64 0, .slice none 0 0, .slice none 0 0, .slice none 0 0, .slice none 0 0, .slice none 0 0, .string ⟨#[]⟩, .int .u64 0] 40)).drew.trans (b1.mono (by simp; omega)))
  have hz : w.heap.size + 2 ≤ w1.heap.size := by have := b1.size; simpa using this
  have HT := hide (t1.mono (lo' := w.heap.size + 2) (hi' := w1.heap.size) (by simp) (Nat.le_refl _))
  rename_i hHeld
  clear hHeld t1 b1
  go_wp2
  refine bodyPost_ret (v := .agg #[.int .u64 r, .slice a1 n.mn.length p1, .slice a2 n.ms.length p2, .slice a3 n.mp.length p3, .slice a4 n.fn.length p4, .slice a5 n.fv.length p5, .string sn, .int .u64 sv]) (by simp [results, Try.results19, go_sem, q0, q1, q2, q3, q4, q5, q6, q7]) rfl ⟨_, _, _, _, _, rfl, ?_, ?_⟩
  · refine ((unhide HT).same ?_).mono (by omega) (by simp)
    exact ((((((((Same.refl _ _ _).setCell _ _ (Or.inl (by simp))).setCell _ _ (Or.inl (by simp))).setCell _ _ (Or.inl (by simp))).setCell _ _ (Or.inl (by simp))).setCell _ _ (Or.inl (by simp))).setCell _ _ (Or.inl (by simp))).setCell _ _ (Or.inl (by simp))).setCell _ _ (Or.inl (by simp))
  · exact ((((((((unhide HB).setCell (by simp) _).setCell (by simp) _).setCell (by simp) _).setCell (by simp) _).setCell (by simp) _).setCell (by simp) _).setCell (by simp) _).setCell (by simp) _

set_option maxRecDepth 100000 in
set_option maxHeartbeats 1600000 in
theorem copySite_any (nm : ByteArray) (vp ve : Value) (pl es : List ByteArray) (w : World) {lo hi : Nat} (hp : StrsAt lo hi w vp pl) (he : StrsAt lo hi w ve es) (hh : hi ≤ w.heap.size) :
    Calls Try.prog 20 #[.agg #[.string nm, vp, ve]] w fun e w' => ∃ d1 d2, e = .returned (.agg #[.string nm, d1, d2]) ∧ StrsAt w.heap.size w'.heap.size w' d1 pl ∧ StrsAt w.heap.size w'.heap.size w' d2 es ∧ Below w.heap.size w w' := by
  have kk : ∀ (v : Value) (ss : List ByteArray) w1, StrsAt lo hi w v ss → CSiteS w (.string nm) vp ve w1 → Calls Try.prog 44 #[v] w1 fun e w' => ∃ ao cap, e = .returned (.slice ao ss.length cap) ∧ StrsAt w1.heap.size w'.heap.size w' (.slice ao ss.length cap) ss ∧ Below w1.heap.size w1 w' := fun v ss w1 h hS =>
    (cloneStrs_any v ss w1 (h.same (Same.below hS.src.1 hh)) (by have := hS.src.2; omega)).mono (by
      rintro e w' ⟨v', rfl, h1, h2⟩
      obtain ⟨ao, cap, rfl⟩ := h1.shape
      exact ⟨ao, cap, rfl, h1, h2⟩)
  have K1 := hide (fun w1 => kk vp pl w1 hp)
  have K2 := hide (fun w1 => kk ve es w1 he)
  clear kk hp he
  go_enter Try.func20, Try.ntmps20
  go_wp2_with fail
  go_region_held3 (fun w' => w'.cell? ⟨w.heap.size, 0, none⟩ = some (.string nm) ∧ w'.cell? ⟨w.heap.size, 1, none⟩ = some vp ∧ w'.cell? ⟨w.heap.size, 2, none⟩ = some ve ∧ w'.cell? ⟨w.heap.size + 1, 0, none⟩ = some (peek w' (w.heap.size + 1) 0) ∧ w'.cell? ⟨w.heap.size + 1, 1, none⟩ = some (peek w' (w.heap.size + 1) 1) ∧ w'.cell? ⟨w.heap.size + 1, 2, none⟩ = some (peek w' (w.heap.size + 1) 2) ∧ w'.frozen? ⟨w.heap.size + 1, 0, none⟩ = false ∧ w'.frozen? ⟨w.heap.size + 1, 1, none⟩ = false ∧ w'.frozen? ⟨w.heap.size + 1, 2, none⟩ = false ∧ w.heap.size + 2 ≤ w'.heap.size ∧ Below w.heap.size w w') (first | with_reducible assumption | with_reducible exact CSiteS.step (w := w) (c0 := .string nm) (c1 := vp) (c2 := ve) (by assumption) (by assumption) | with_reducible exact CSiteS.start w (.string nm) vp ve (.string ⟨#[]⟩) (.slice none 0 0) (.slice none 0 0) | with_reducible exact CSiteS.stored (w := w) (c0 := .string nm) (c1 := vp) (c2 := ve) (by assumption) _ _ _) (first | (go_at_call_of 44 vp; refine (unhide K1 _ ?_).mono ?_; assumption; rintro e w1 ⟨a1, p1, rfl, t1, b1⟩) | (go_at_call 44; refine (unhide K2 _ ?_).mono ?_; assumption; rintro e w2 ⟨a2, p2, rfl, t2, b2⟩))
  obtain ⟨q0, q1, q2⟩ := CSiteS.box (below2 b1 b2 (by simp))
  have HB := hide ((((Below.refl _ w).alloc (Nat.le_refl _) (.cells #[.string nm, vp, ve] 42)).alloc (by simp) (.cells #[.string ⟨#[]⟩, .slice none 0 0, .slice none 0 0] 42)).drew.trans (below2 b1 b2 (by simp; omega)))
  have hz : w.heap.size + 2 ≤ w1.heap.size := by have := b1.size; simpa using this
  have hz2 := b2.size
  have HT1 := hide ((t1.same (Same.below b2 (Nat.le_refl _))).mono (lo' := w.heap.size + 2) (hi' := w2.heap.size) (by simp) hz2)
  have HT2 := hide (t2.mono (lo' := w.heap.size + 2) (hi' := w2.heap.size) hz (Nat.le_refl _))
  rename_i hHeld
  clear hHeld t1 t2 b1 b2 hz2
  go_wp2
  refine bodyPost_ret (v := .agg #[.string nm, .slice a1 pl.length p1, .slice a2 es.length p2]) (by simp [results, Try.results20, go_sem, q0, q1, q2]) rfl ⟨_, _, rfl, ?_, ?_, ?_⟩
  · refine ((unhide HT1).same ?_).mono (by omega) (by simp)
    exact (((Same.refl _ _ _).setCell _ _ (Or.inl (by simp))).setCell _ _ (Or.inl (by simp))).setCell _ _ (Or.inl (by simp))
  · refine ((unhide HT2).same ?_).mono (by omega) (by simp)
    exact (((Same.refl _ _ _).setCell _ _ (Or.inl (by simp))).setCell _ _ (Or.inl (by simp))).setCell _ _ (Or.inl (by simp))
  · exact (((unhide HB).setCell (by simp) _).setCell (by simp) _).setCell (by simp) _

end Go.Proofs.Qxb6601448a
