/- The walks of bytesOfNews, newsCountsFit; Covers at whatever rounds. -/
import Derived.Test.Qxb6601448aCovers
namespace Go.Proofs.Qxb6601448a
open Go.RowKit
set_option linter.unusedVariables false

theorem covers_any (r1 r2 : Int) (a1 a2 b1 b2 : Option Nat) (w : World) {lo hi n1 n2 n3 n4 : Nat} (D1 F1 D2 F2 : DataW Value) (hh : hi ≤ w.heap.size)
    (m1 : MapIs mkR lo hi w a1 n1 D1) (m2 : MapIs fiR lo hi w a2 n2 F1) (m3 : MapIs mkR lo hi w b1 n3 D2) (m4 : MapIs fiR lo hi w b2 n4 F2) :
    Calls Try.prog 14 #[.agg #[.int .u64 r1, .map a1, .map a2], .agg #[.int .u64 r2, .map b1, .map b2]] w fun e w' => ∃ b : Bool, e = .returned (.bool b) ∧ (b = true ↔ CoversP r1 D1 F1 r2 D2 F2) ∧ Below w.heap.size w w' := by
  by_cases hr : r1 = r2
  · subst hr
    exact covers_eq r1 a1 a2 b1 b2 w D1 F1 D2 F2 hh m1 m2 m3 m4
  · exact covers_ne r1 r2 a1 a2 b1 b2 w D1 F1 D2 F2 hr

theorem WordsAt.len {lo hi : Nat} {w : World} {v : Value} {zs : List Int} (h : WordsAt lo hi w v zs) : zs.length * 8 ≤ 140737488351232 := by
  obtain ⟨⟨ao, cap, hv, h1, h2, h3⟩, h4⟩ := h
  simpa using h2

set_option maxHeartbeats 800000 in
theorem bytesOfNews_any (r : Int) (c1 c2 c3 c4 c5 : Value) (n : News) (w : World) {lo hi : Nat} (h : NewsAt lo hi w c1 c2 c3 c4 c5 n) (hh : hi ≤ w.heap.size) :
    Calls Try.prog 10 #[.agg #[.int .u64 r, c1, c2, c3, c4, c5]] w fun e w' => (∃ z, e = .returned (.int .i64 z)) ∧ Below w.heap.size w w' := by
  obtain ⟨g1, g2, g3, g4, g5⟩ := h.same ((Same.refl lo hi w).alloc (.cells #[.int .u64 r, c1, c2, c3, c4, c5] 27) hh)
  have l2 := g2.len
  have l5 := g5.len
  obtain ⟨a2, p2, rfl⟩ := g2.shape
  obtain ⟨a5, p5, rfl⟩ := g5.shape
  generalize n.ms.length = n2 at *
  generalize n.fv.length = n5 at *
  clear h
  go_enter Try.func10, Try.ntmps10
  go_wp2_with fail
  refine (bytesOfStrs_any _ _ _ g1).mono ?_
  rintro e w1 ⟨⟨z1, rfl⟩, rfl⟩
  go_wp2_with fail
  refine (bytesOfWords_any _ _ _ _ l2).mono ?_
  rintro e w1 ⟨⟨z2, rfl⟩, rfl⟩
  go_wp2_with fail
  refine (addB_any _ _ _).mono ?_
  rintro e w1 ⟨⟨z3, rfl⟩, rfl⟩
  go_wp2_with fail
  refine (bytesOfNested_any _ _ _ g3).mono ?_
  rintro e w1 ⟨⟨z4, rfl⟩, rfl⟩
  go_wp2_with fail
  refine (addB_any _ _ _).mono ?_
  rintro e w1 ⟨⟨z5, rfl⟩, rfl⟩
  go_wp2_with fail
  refine (bytesOfStrs_any _ _ _ g4).mono ?_
  rintro e w1 ⟨⟨z6, rfl⟩, rfl⟩
  go_wp2_with fail
  refine (addB_any _ _ _).mono ?_
  rintro e w1 ⟨⟨z7, rfl⟩, rfl⟩
  go_wp2_with fail
  refine (bytesOfWords_any _ _ _ _ l5).mono ?_
  rintro e w1 ⟨⟨z8, rfl⟩, rfl⟩
  go_wp2_with fail
  refine (addB_any _ _ _).mono ?_
  rintro e w1 ⟨⟨z9, rfl⟩, rfl⟩
  go_wp2
  go_ret
  exact ⟨⟨_, rfl⟩, (Below.refl _ _).alloc (Nat.le_refl _) _⟩

theorem newsCountsFit_any (r : Int) (c2 c3 c5 : Value) (a1 a4 : Option Addr) (n1 p1 n4 p4 : Nat) (w : World) :
    Calls Try.prog 11 #[.agg #[.int .u64 r, .slice a1 n1 p1, c2, c3, .slice a4 n4 p4, c5]] w fun e w' => e = .returned (.bool (decide (n1 ≤ 4096 ∧ n4 ≤ 4096))) ∧ Below w.heap.size w w' := by
  by_cases h1 : n1 ≤ 4096
  · by_cases h4 : n4 ≤ 4096
    · have e1 : (decide (n1 ≤ 4096 ∧ n4 ≤ 4096)) = true := by simp [h1, h4]
      rw [e1]
      have h1' : (n1 : Int) ≤ 4096 := by omega
      have h4' : (n4 : Int) ≤ 4096 := by omega
      clear e1 h1 h4
      go_enter Try.func11, Try.ntmps11
      go_wp2
      go_ret
      exact ⟨by simp, (Below.refl _ _).alloc (Nat.le_refl _) _⟩
    · have e1 : (decide (n1 ≤ 4096 ∧ n4 ≤ 4096)) = false := by simp [h4]
      rw [e1]
      have h1' : (n1 : Int) ≤ 4096 := by omega
      have h4' : ¬ (n4 : Int) ≤ 4096 := by omega
      clear e1 h1 h4
      go_enter Try.func11, Try.ntmps11
      go_wp2
      go_ret
      exact ⟨by simp, (Below.refl _ _).alloc (Nat.le_refl _) _⟩
  · have e1 : (decide (n1 ≤ 4096 ∧ n4 ≤ 4096)) = false := by simp [h1]
    rw [e1]
    have h1' : ¬ (n1 : Int) ≤ 4096 := by omega
    clear e1 h1
    go_enter Try.func11, Try.ntmps11
    go_wp2
    go_ret
    exact ⟨rfl, (Below.refl _ _).alloc (Nat.le_refl _) _⟩

end Go.Proofs.Qxb6601448a
