/- The walk of toNews. -/
import Derived.Test.Qxb6601448aMaps
namespace Go.Proofs.Qxb6601448a
open Go.RowKit
open Go.Maps (Keyed)
set_option linter.unusedVariables false

/-- A statement's state: the parameter's box, the result's box. -/
abbrev ToNewsS (w : World) (c0 c1 c2 c3 c4 c5 : Value) (w' : World) : Prop :=
  w'.cell? ⟨w.heap.size, 0, none⟩ = some c0 ∧ w'.cell? ⟨w.heap.size, 1, none⟩ = some c1 ∧ w'.cell? ⟨w.heap.size, 2, none⟩ = some c2 ∧ w'.cell? ⟨w.heap.size, 3, none⟩ = some c3 ∧ w'.cell? ⟨w.heap.size, 4, none⟩ = some c4 ∧ w'.cell? ⟨w.heap.size, 5, none⟩ = some c5 ∧ w'.cell? ⟨w.heap.size + 1, 0, none⟩ = some (peek w' (w.heap.size + 1) 0) ∧ w'.cell? ⟨w.heap.size + 1, 1, none⟩ = some (peek w' (w.heap.size + 1) 1) ∧ w'.cell? ⟨w.heap.size + 1, 2, none⟩ = some (peek w' (w.heap.size + 1) 2) ∧ w'.frozen? ⟨w.heap.size + 1, 0, none⟩ = false ∧ w'.frozen? ⟨w.heap.size + 1, 1, none⟩ = false ∧ w'.frozen? ⟨w.heap.size + 1, 2, none⟩ = false ∧ w.heap.size + 2 ≤ w'.heap.size ∧ Below w.heap.size w w'

theorem ToNewsS.start (w : World) (c0 c1 c2 c3 c4 c5 z0 z1 z2 : Value) : ToNewsS w c0 c1 c2 c3 c4 c5 ((w.alloc (.cells #[c0, c1, c2, c3, c4, c5] 27)).alloc (.cells #[z0, z1, z2] 36)).drew := by
  have hb : Below w.heap.size w ((w.alloc (.cells #[c0, c1, c2, c3, c4, c5] 27)).alloc (.cells #[z0, z1, z2] 36)).drew := (((Below.refl _ _).alloc (Nat.le_refl _) _).alloc (by simp) _).drew
  refine ⟨?_, ?_, ?_, ?_, ?_, ?_, peek_eq (v := z0) ?_, peek_eq (v := z1) ?_, peek_eq (v := z2) ?_, ?_, ?_, ?_, by simp, hb⟩
  all_goals simp [go_sem]

theorem ToNewsS.step {w w1 w2 : World} {c0 c1 c2 c3 c4 c5 : Value} (h : ToNewsS w c0 c1 c2 c3 c4 c5 w1) (hb : Below w1.heap.size w1 w2) : ToNewsS w c0 c1 c2 c3 c4 c5 w2 := by
  obtain ⟨h0, h1, h2, h3, h4, h5, p0, p1, p2, f0, f1, f2, hs, hB⟩ := h
  have hc : ∀ j, w2.cell? ⟨w.heap.size, j, none⟩ = w1.cell? ⟨w.heap.size, j, none⟩ := fun j => hb.cell (by simp; omega)
  have hd : ∀ j, w2.cell? ⟨w.heap.size + 1, j, none⟩ = w1.cell? ⟨w.heap.size + 1, j, none⟩ := fun j => hb.cell (by simp; omega)
  have hf : ∀ j, w2.frozen? ⟨w.heap.size + 1, j, none⟩ = w1.frozen? ⟨w.heap.size + 1, j, none⟩ := fun j => hb.frozen (by simp; omega)
  have hz := hb.size
  exact ⟨(hc 0).trans h0, (hc 1).trans h1, (hc 2).trans h2, (hc 3).trans h3, (hc 4).trans h4, (hc 5).trans h5, peek_eq ((hd 0).trans p0), peek_eq ((hd 1).trans p1), peek_eq ((hd 2).trans p2), (hf 0).trans f0, (hf 1).trans f1, (hf 2).trans f2, by omega, hB.trans (hb.mono (by omega))⟩

theorem ToNewsS.set {w w1 : World} {c0 c1 c2 c3 c4 c5 : Value} (h : ToNewsS w c0 c1 c2 c3 c4 c5 w1) (j : Nat) (u : Value) : ToNewsS w c0 c1 c2 c3 c4 c5 (w1.setCell ⟨w.heap.size + 1, j, none⟩ u) := by
  obtain ⟨h0, h1, h2, h3, h4, h5, p0, p1, p2, f0, f1, f2, hs, hB⟩ := h
  have hc : ∀ j', (w1.setCell ⟨w.heap.size + 1, j, none⟩ u).cell? ⟨w.heap.size, j', none⟩ = w1.cell? ⟨w.heap.size, j', none⟩ := fun j' => World.cell?_setCell_other _ _ _ _ (by simp)
  have hd : ∀ j' v, w1.cell? ⟨w.heap.size + 1, j', none⟩ = some v → (w1.setCell ⟨w.heap.size + 1, j, none⟩ u).cell? ⟨w.heap.size + 1, j', none⟩ = some (peek (w1.setCell ⟨w.heap.size + 1, j, none⟩ u) (w.heap.size + 1) j') := fun j' v hv => by
    obtain ⟨v', hv'⟩ := cell?_setCell_some (p := ⟨w.heap.size + 1, j, none⟩) (x := u) hv
    exact peek_eq hv'
  have hf : ∀ j', (w1.setCell ⟨w.heap.size + 1, j, none⟩ u).frozen? ⟨w.heap.size + 1, j', none⟩ = w1.frozen? ⟨w.heap.size + 1, j', none⟩ := fun j' => World.frozen?_setCell _ _ _ _
  exact ⟨(hc 0).trans h0, (hc 1).trans h1, (hc 2).trans h2, (hc 3).trans h3, (hc 4).trans h4, (hc 5).trans h5, hd 0 _ p0, hd 1 _ p1, hd 2 _ p2, (hf 0).trans f0, (hf 1).trans f1, (hf 2).trans f2, by simpa using hs, hB.setCell (by simp) _⟩

theorem ToNewsS.src {w w1 : World} {c0 c1 c2 c3 c4 c5 : Value} (h : ToNewsS w c0 c1 c2 c3 c4 c5 w1) : Below w.heap.size w w1 ∧ w.heap.size + 2 ≤ w1.heap.size := by
  obtain ⟨h0, h1, h2, h3, h4, h5, p0, p1, p2, f0, f1, f2, hs, hB⟩ := h
  exact ⟨hB, hs⟩

/-- The result's box is as it was made while what was there is kept. -/
theorem ToNewsS.box {w w5 : World} {c0 c1 c2 c3 c4 c5 z0 z1 z2 : Value} (b : Below (w.heap.size + 2) ((w.alloc (.cells #[c0, c1, c2, c3, c4, c5] 27)).alloc (.cells #[z0, z1, z2] 36)).drew w5) : w5.cell? ⟨w.heap.size + 1, 0, none⟩ = some z0 ∧ w5.cell? ⟨w.heap.size + 1, 1, none⟩ = some z1 ∧ w5.cell? ⟨w.heap.size + 1, 2, none⟩ = some z2 := by
  refine ⟨(b.cell (by simp)).trans ?_, (b.cell (by simp)).trans ?_, (b.cell (by simp)).trans ?_⟩
  all_goals simp [go_sem]


theorem below2 {W0 w1 w2 : World} {B : Nat} (b1 : Below W0.heap.size W0 w1) (b2 : Below w1.heap.size w1 w2) (hB : B ≤ W0.heap.size) : Below B W0 w2 := (b1.mono hB).trans (b2.mono (by have := b1.size; omega))

set_option maxRecDepth 100000 in
set_option maxHeartbeats 1600000 in
theorem toNews_any (r : Int) (c1 c2 c3 c4 c5 : Value) (force : Bool) (mn : List ByteArray) (ms : List Int) (vs : List Value) (fn : List ByteArray) (fv : List Int) (w : World) {lo hi : Nat} (g1 : StrsAt lo hi w c1 mn) (g2 : WordsAt lo hi w c2 ms) (g3 : RowAt 24 lo hi w c3 vs) (g3s : ∀ i, i < vs.length → ∃ ao n cap, vs.getD i undef = .slice ao n cap) (g4 : StrsAt lo hi w c4 fn) (g5 : WordsAt lo hi w c5 fv) (hh : hi ≤ w.heap.size) :
    Calls Try.prog 13 #[.agg #[.int .u64 r, c1, c2, c3, c4, c5], .bool force] w fun e w' => ∃ m1 m2, e = .returned (.agg #[.int .u64 r, .map m1, .map m2]) ∧ MapIs mkR w.heap.size w'.heap.size w' m1 mn.length (mapOf (marks mn ms vs)) ∧ MapIs fiR w.heap.size w'.heap.size w' m2 fn.length (mapOf (fins fn fv)) ∧ (force = true → m1 ≠ none ∧ m2 ≠ none) ∧ Below w.heap.size w w' := by
  have k1 : ∀ w1, ToNewsS w (.int .u64 r) c1 c2 c3 c4 c5 w1 → Calls Try.prog 47 #[c1, c2, c3, .bool force] w1 fun e w' => ∃ mo, e = .returned (.map mo) ∧ MapIs mkR w1.heap.size w'.heap.size w' mo mn.length (mapOf (marks mn ms vs)) ∧ (force = true → mo ≠ none) ∧ Below w1.heap.size w1 w' := fun w1 hS => by
    have hs := Same.below (lo := lo) hS.src.1 hh
    exact buildMarkers_any c1 c2 c3 force mn ms vs w1 (g1.same hs) (g2.same hs) (g3.same hs) g3s (by have := hS.src.2; omega)
  have k2 : ∀ w1, ToNewsS w (.int .u64 r) c1 c2 c3 c4 c5 w1 → Calls Try.prog 48 #[c4, c5, .bool force] w1 fun e w' => ∃ mo, e = .returned (.map mo) ∧ MapIs fiR w1.heap.size w'.heap.size w' mo fn.length (mapOf (fins fn fv)) ∧ (force = true → mo ≠ none) ∧ Below w1.heap.size w1 w' := fun w1 hS => by
    have hs := Same.below (lo := lo) hS.src.1 hh
    exact buildFinals_any c4 c5 force fn fv w1 (g4.same hs) (g5.same hs) (by have := hS.src.2; omega)
  have K1 := hide k1
  have K2 := hide k2
  clear k1 k2 g1 g2 g3 g3s g4 g5
  go_enter Try.func13, Try.ntmps13
  go_wp2_with fail
  go_region_held3 (fun w' => w'.cell? ⟨w.heap.size, 0, none⟩ = some (.int .u64 r) ∧ w'.cell? ⟨w.heap.size, 1, none⟩ = some c1 ∧ w'.cell? ⟨w.heap.size, 2, none⟩ = some c2 ∧ w'.cell? ⟨w.heap.size, 3, none⟩ = some c3 ∧ w'.cell? ⟨w.heap.size, 4, none⟩ = some c4 ∧ w'.cell? ⟨w.heap.size, 5, none⟩ = some c5 ∧ w'.cell? ⟨w.heap.size + 1, 0, none⟩ = some (peek w' (w.heap.size + 1) 0) ∧ w'.cell? ⟨w.heap.size + 1, 1, none⟩ = some (peek w' (w.heap.size + 1) 1) ∧ w'.cell? ⟨w.heap.size + 1, 2, none⟩ = some (peek w' (w.heap.size + 1) 2) ∧ w'.frozen? ⟨w.heap.size + 1, 0, none⟩ = false ∧ w'.frozen? ⟨w.heap.size + 1, 1, none⟩ = false ∧ w'.frozen? ⟨w.heap.size + 1, 2, none⟩ = false ∧ w.heap.size + 2 ≤ w'.heap.size ∧ Below w.heap.size w w') (first | with_reducible exact ToNewsS.step (by assumption) (by assumption) | with_reducible exact ToNewsS.start _ _ _ _ _ _ _ _ _ _ | (with_reducible (repeat refine ToNewsS.set ?_ _ _); assumption))
    (first | (go_at_call 47; refine (unhide K1 _ ?_).mono ?_; assumption; rintro e w1 ⟨m1, rfl, t1, f1, b1⟩) | (go_at_call 48; refine (unhide K2 _ ?_).mono ?_; assumption; rintro e w2 ⟨m2, rfl, t2, f2, b2⟩))
  obtain ⟨q0, q1, q2⟩ := ToNewsS.box (below2 b1 b2 (by simp))
  have hB : Below w.heap.size w w2 := (((Below.refl _ w).alloc (Nat.le_refl _) _).alloc (by simp) _).drew.trans (below2 b1 b2 (by simp; omega))
  have z1 := b1.size
  have z2 := b2.size
  simp at z1
  have hm1 : MapIs mkR (w.heap.size + 2) w2.heap.size w2 m1 mn.length (mapOf (marks mn ms vs)) := (t1.same (Same.below b2 (Nat.le_refl _))).mono (by simp) z2
  have hm2 : MapIs fiR (w.heap.size + 2) w2.heap.size w2 m2 fn.length (mapOf (fins fn fv)) := t2.mono (by omega) (Nat.le_refl _)
  have HF : Hid (force = true → m1 ≠ none ∧ m2 ≠ none) := fun h => ⟨f1 h, f2 h⟩
  have HB := hide hB
  have H1 := hide hm1
  have H2 := hide hm2
  clear hB t1 t2 b1 b2 hm1 hm2 f1 f2 z1 z2
  go_wp2
  refine bodyPost_ret (v := .agg #[.int .u64 r, .map m1, .map m2]) (by simp [results, Try.results13, go_sem, q0, q1, q2]) rfl ⟨m1, m2, rfl, ?_, ?_, unhide HF, ?_⟩
  · exact ((unhide H1).same ((((Same.refl _ _ _).setCell _ _ (Or.inl (by simp))).setCell _ _ (Or.inl (by simp))).setCell _ _ (Or.inl (by simp)))).mono (by omega) (by simp)
  · exact ((unhide H2).same ((((Same.refl _ _ _).setCell _ _ (Or.inl (by simp))).setCell _ _ (Or.inl (by simp))).setCell _ _ (Or.inl (by simp)))).mono (by omega) (by simp)
  · exact (((unhide HB).setCell (by simp) _).setCell (by simp) _).setCell (by simp) _

end Go.Proofs.Qxb6601448a
