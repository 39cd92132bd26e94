/- The walk of Covers. -/
import Derived.Test.Qxb6601448aRange
namespace Go.Proofs.Qxb6601448a
open Go.RowKit
open Go.Maps (Keyed)
set_option linter.unusedVariables false

/-- Every key of E is a key of D. -/
def Sub (D E : DataW Value) : Prop := ∀ kl, Maps.has E kl = true → Maps.has D kl = true

/-- What Covers answers. -/
def CoversP (r1 : Int) (D1 F1 : DataW Value) (r2 : Int) (D2 F2 : DataW Value) : Prop := r2 < r1 ∨ (r1 = r2 ∧ Sub D1 D2 ∧ Sub F1 F2)

/-- How far a range over E has come: what is left is of E; of what is no longer left D has all. -/
def Been (D E : DataW Value) (left : Lit → Bool) : Prop := (∀ kl, left kl = true → Maps.has E kl = true) ∧ ∀ kl, Maps.has E kl = true → left kl = false → Maps.has D kl = true

theorem Been.start (D E : DataW Value) : Been D E (Maps.has E) := ⟨fun _ h => h, fun kl h h' => by rw [h] at h'; cases h'⟩
theorem Been.step {D E : DataW Value} {left : Lit → Bool} {kl : Lit} (h : Been D E left) (hk : Maps.has D kl = true) : Been D E (fun z => left z && !z.sameKey kl) := by
  refine ⟨fun z hz => h.1 z (by simp at hz; exact hz.1), fun z h1 h2 => ?_⟩
  simp only [Bool.and_eq_false_iff, Bool.not_eq_false'] at h2
  rcases h2 with h2 | h2
  · exact h.2 z h1 h2
  · rw [WideAt.sameKey_eq h2]; exact hk
theorem Been.done {D E : DataW Value} {left : Lit → Bool} (h : Been D E left) (hl : ∀ kl, left kl = false) : Sub D E := fun kl hk => h.2 kl hk (hl kl)
theorem Been.fail {D E : DataW Value} {left : Lit → Bool} {kl : Lit} (h : Been D E left) (hl : left kl = true) (hk : Maps.has D kl = false) : ¬ Sub D E := fun hs => by
  have := hs kl (h.1 kl hl)
  rw [hk] at this
  cases this

/-- The two boxes of Covers, in a later world. -/
theorem two_boxes {w wr : World} {x0 x1 x2 y0 y1 y2 : Value} (hbl : Below (w.heap.size + 2) ((w.alloc (.cells #[x0, x1, x2] 36)).alloc (.cells #[y0, y1, y2] 36)) wr) :
    wr.cell? ⟨w.heap.size, 1, none⟩ = some x1 ∧ wr.cell? ⟨w.heap.size, 2, none⟩ = some x2 ∧ wr.cell? ⟨w.heap.size + 1, 1, none⟩ = some y1 ∧ wr.cell? ⟨w.heap.size + 1, 2, none⟩ = some y2 := by
  refine ⟨(hbl.cell (by simp)).trans ?_, (hbl.cell (by simp)).trans ?_, (hbl.cell (by simp)).trans ?_, (hbl.cell (by simp)).trans ?_⟩
  all_goals simp [go_sem]

theorem boxes_same {lo hi : Nat} {w wr : World} {o1 o2 : Obj} (hbl : Below (w.heap.size + 2) ((w.alloc o1).alloc o2) wr) (hh : hi ≤ w.heap.size) : Same lo hi w wr :=
  (((Same.refl lo hi w).alloc o1 hh).alloc o2 (by simp; omega)).trans (Same.below hbl (by omega))

theorem boxes_below {w wr : World} {o1 o2 : Obj} (hbl : Below (w.heap.size + 2) ((w.alloc o1).alloc o2) wr) : Below w.heap.size w wr :=
  (((Below.refl _ w).alloc (Nat.le_refl _) o1).alloc (by simp) o2).trans (hbl.mono (by omega))

theorem covers_ne (r1 r2 : Int) (a1 a2 b1 b2 : Option Nat) (w : World) (D1 F1 D2 F2 : DataW Value) (hr : r1 ≠ r2) :
    Calls Try.prog 14 #[.agg #[.int .u64 r1, .map a1, .map a2], .agg #[.int .u64 r2, .map b1, .map b2]] w fun e w' => ∃ b : Bool, e = .returned (.bool b) ∧ (b = true ↔ CoversP r1 D1 F1 r2 D2 F2) ∧ Below w.heap.size w w' := by
  have h1 : (r1 != r2) = true := by simpa using hr
  go_enter Try.func14, Try.ntmps14
  go_wp2
  go_ret
  refine ⟨decide (r2 < r1), rfl, ?_, ((Below.refl _ _).alloc (Nat.le_refl _) _).alloc (by simp) _⟩
  simp [CoversP, hr]

set_option maxRecDepth 100000 in
set_option maxHeartbeats 2000000 in
theorem covers_eq (r : Int) (a1 a2 b1 b2 : Option Nat) (w : World) {lo hi n1 n2 n3 n4 : Nat} (D1 F1 D2 F2 : DataW Value) (hh : hi ≤ w.heap.size)
    (m1 : MapIs mkR lo hi w a1 n1 D1) (m2 : MapIs fiR lo hi w a2 n2 F1) (m3 : MapIs mkR lo hi w b1 n3 D2) (m4 : MapIs fiR lo hi w b2 n4 F2) :
    Calls Try.prog 14 #[.agg #[.int .u64 r, .map a1, .map a2], .agg #[.int .u64 r, .map b1, .map b2]] w fun e w' => ∃ b : Bool, e = .returned (.bool b) ∧ (b = true ↔ CoversP r D1 F1 r D2 F2) ∧ Below w.heap.size w w' := by
  have M1 := hide m1
  have M2 := hide m2
  have M3 := hide m3
  have M4 := hide m4
  have hb1 : ∀ b, b1 = some b → b < w.heap.size := fun b e => by subst e; have := m3.2.1; omega
  have hb2 : ∀ b, b2 = some b → b < w.heap.size := fun b e => by subst e; have := m4.2.1; omega
  have HB1 := hide hb1
  have HB2 := hide hb2
  clear m1 m2 m3 m4 hb1 hb2
  go_enter Try.func14, Try.ntmps14
  go_wp2_with (first | (at_range; refine wpList_range_is (R := mkR) _ rfl _ 33 rfl 86 Try.underlying33 b1 lo hi n3 D2 rfl ((unhide M3).same (boxes_same (Below.refl _ _) hh)) ?_; intro w0 hrg0 hg0 hs0) | fail)
  go_frame
  simp only [World.size_alloc] at hrg0 hs0 ⊢
  go_loopw [5] (fun _ wr => ∃ left cnt, Ranging mkR wr b1 (w.heap.size + 2) n3 D2 left cnt ∧ Been D1 D2 left ∧ Below (w.heap.size + 2) ((w.alloc (.cells #[.int .u64 r, .map a1, .map a2] 36)).alloc (.cells #[.int .u64 r, .map b1, .map b2] 36)) wr ∧ w.heap.size + 3 ≤ wr.heap.size) (fun _ wr => leftOver wr b1 (w.heap.size + 2))
  case atStart =>
    exact ⟨_, _, hrg0, Been.start _ _, (Below.refl _ _).grown hg0 (by simp) (by simp), by omega⟩
  case round =>
    obtain ⟨left, cnt, hrg, hbe, hbl, hsz⟩ := hrel
    go_wp2_with (first | (at_next; refine next_marker _ rfl _ rfl b1 (w.heap.size + 2) n3 D2 left cnt rfl hrg ?_ ?_) | fail)
    · intro hl0
      have hsub := hbe.done hl0
      have HS1 := hide hsub
      obtain ⟨c1, c2, c3, c4⟩ := two_boxes hbl
      obtain ⟨wo, rfl⟩ : ∃ wo : World, wo = wr := ⟨_, rfl⟩
      clear hl0 hsub hbe hrg hrg0 hg0 hs0
      go_wp2_with (first | (at_range; refine wpList_range_is (R := fiR) _ rfl _ 34 rfl 22 Try.underlying34 b2 lo hi n4 F2 rfl ((unhide M4).same (boxes_same hbl hh)) ?_; intro w3 hrg3 hg3 hs3) | fail)
      go_frame
      go_loopw [8] (fun _ wr => ∃ left cnt, Ranging fiR wr b2 wo.heap.size n4 F2 left cnt ∧ Been F1 F2 left ∧ Below (w.heap.size + 2) ((w.alloc (.cells #[.int .u64 r, .map a1, .map a2] 36)).alloc (.cells #[.int .u64 r, .map b1, .map b2] 36)) wr ∧ wo.heap.size + 1 ≤ wr.heap.size) (fun _ wr => leftOver wr b2 wo.heap.size)
      case atStart => exact ⟨_, _, hrg3, Been.start _ _, hbl.grown hg3 (by omega) (by simp), by omega⟩
      case round =>
        obtain ⟨left, cnt, hrg, hbe, hbl2, hsz2⟩ := hrel
        clear c1 c2 c3 c4 hrg3 hg3 hs3
        go_wp2_with (first | (at_next; refine next_final _ rfl _ rfl b2 wo.heap.size n4 F2 left cnt rfl hrg ?_ ?_) | fail)
        · intro hl0
          have hsub := hbe.done hl0
          have HS2 := hide hsub
          clear hl0 hsub hbe hrg
          go_wp2
          go_ret
          exact ⟨true, rfl, by simp [CoversP, unhide HS1, unhide HS2], boxes_below hbl2⟩
        · intro s z w1 cnt1 hs hlk hat hrg1 hlt hg1 hs1 hen
          have hb1 := hbl2.grown hg1 (by omega) (by intro k e; cases e; omega)
          obtain ⟨c1, c2, c3, c4⟩ := two_boxes hb1
          have hm := (unhide M2).same (boxes_same hb1 hh)
          have hcnt := hrg.left_eq
          have hcnt1 := hrg1.left_eq
          have HRG := hide hrg1
          have HBE := hide hbe
          have HC := hide hcnt
          have HC1 := hide hcnt1
          clear hat hrg hrg1 hbe hcnt hcnt1
          cases hk : Maps.has F1 (key s) with
          | true =>
            go_wp2_with (first | (at_lookup; refine look_final _ rfl _ _ rfl a2 lo hi n2 F1 rfl hm s rfl hs ?_; intro z2 hat2) | fail)
            go_roundw
            case rel => exact ⟨_, cnt1, unhide HRG, (unhide HBE).step hk, hb1, by omega⟩
            case measure => rw [unhide HC1, unhide HC]; exact hlt
          | false =>
            have hnot := (unhide HBE).fail hlk hk
            have HN := hide hnot
            clear hnot
            go_wp2_with (first | (at_lookup; refine look_final _ rfl _ _ rfl a2 lo hi n2 F1 rfl hm s rfl hs ?_; intro z2 hat2) | fail)
            go_ret
            exact ⟨false, rfl, by simp [CoversP, unhide HN], boxes_below hb1⟩
    · intro s z pa pn pc w1 cnt1 hs hlk hat hrg1 hlt hg1 hs1 hen
      have hb1 := hbl.grown hg1 (by omega) (by intro k e; cases e; omega)
      obtain ⟨c1, c2, c3, c4⟩ := two_boxes hb1
      have hm := (unhide M1).same (boxes_same hb1 hh)
      have hcnt := hrg.left_eq
      have hcnt1 := hrg1.left_eq
      have HRG := hide hrg1
      have HBE := hide hbe
      have HC := hide hcnt
      have HC1 := hide hcnt1
      clear hat hrg hrg1 hbe hcnt hcnt1 hrg0 hg0 hs0
      cases hk : Maps.has D1 (key s) with
      | true =>
        go_wp2_with (first | (at_lookup; refine look_marker _ rfl _ _ rfl a1 lo hi n1 D1 rfl hm s rfl hs ?_; intro z2 pa2 pn2 pc2 hat2) | fail)
        go_roundw
        case rel => exact ⟨_, cnt1, (unhide HRG).kept (fun b e => Below.heap_alloc _ _ _ (by have := unhide HB1 b e; omega)) (Below.heap_alloc _ _ _ (by omega)), (unhide HBE).step hk, hb1.alloc (by omega) _, by simp; omega⟩
        case measure => rw [((unhide HRG).kept (fun b e => Below.heap_alloc _ _ _ (by have := unhide HB1 b e; omega)) (Below.heap_alloc _ _ _ (by omega))).left_eq, unhide HC]; exact hlt
      | false =>
        have hnot := (unhide HBE).fail hlk hk
        have HN := hide hnot
        clear hnot
        go_wp2_with (first | (at_lookup; refine look_marker _ rfl _ _ rfl a1 lo hi n1 D1 rfl hm s rfl hs ?_; intro z2 pa2 pn2 pc2 hat2) | fail)
        go_ret
        exact ⟨false, rfl, by simp [CoversP, unhide HN], (boxes_below hb1).alloc (by omega) _⟩

end Go.Proofs.Qxb6601448a
