/- The walks of bytesOfSnap (16), bytesOfSite (17), siteCountsFit (18), toSite (23), toSnap (21). -/
import Derived.Test.Qxb6601448aSizes
import Derived.Test.Qxb6601448aToNews
namespace Go.Proofs.Qxb6601448a
open Go.RowKit
open Go.Maps (Keyed)
set_option linter.unusedVariables false

theorem bytesOfSite_any (nm : ByteArray) (vp ve : Value) (pl es : List ByteArray) (w : World) {lo hi : Nat} (hnm : nm.size ≤ maxLen) (hp : StrsAt lo hi w vp pl) (he : StrsAt lo hi w ve es) (hh : hi ≤ w.heap.size) :
    Calls Try.prog 17 #[.agg #[.string nm, vp, ve]] w fun e w' => (∃ z, e = .returned (.int .i64 z)) ∧ Below w.heap.size w w' := by
  have g1 := hp.same ((Same.refl lo hi w).alloc (.cells #[.string nm, vp, ve] 42) hh)
  have g2 := he.same ((Same.refl lo hi w).alloc (.cells #[.string nm, vp, ve] 42) hh)
  clear hp he
  go_enter Try.func17, Try.ntmps17
  go_wp2_with fail
  refine (addB_any _ _ _).mono ?_
  rintro e w1 ⟨⟨z3, rfl⟩, rfl⟩
  go_wp2_with fail
  refine (bytesOfStrs_any _ _ _ g1).mono ?_
  rintro e w1 ⟨⟨z1, rfl⟩, rfl⟩
  go_wp2_with fail
  refine (addB_any _ _ _).mono ?_
  rintro e w1 ⟨⟨z4, rfl⟩, rfl⟩
  go_wp2_with fail
  refine (bytesOfStrs_any _ _ _ g2).mono ?_
  rintro e w1 ⟨⟨z2, rfl⟩, rfl⟩
  go_wp2_with fail
  refine (addB_any _ _ _).mono ?_
  rintro e w1 ⟨⟨z5, rfl⟩, rfl⟩
  go_wp2
  go_ret
  exact ⟨⟨_, rfl⟩, (Below.refl _ _).alloc (Nat.le_refl _) _⟩

theorem siteCountsFit_any (nm : ByteArray) (a1 a2 : Option Addr) (n1 p1 n2 p2 : Nat) (w : World) :
    Calls Try.prog 18 #[.agg #[.string nm, .slice a1 n1 p1, .slice a2 n2 p2]] w fun e w' => e = .returned (.bool (decide (n1 ≤ 4096 ∧ n2 ≤ 4096))) ∧ Below w.heap.size w w' := by
  by_cases h1 : n1 ≤ 4096
  · by_cases h4 : n2 ≤ 4096
    · have e1 : (decide (n1 ≤ 4096 ∧ n2 ≤ 4096)) = true := by simp [h1, h4]
      rw [e1]
      have h1' : (n1 : Int) ≤ 4096 := by omega
      have h4' : (n2 : Int) ≤ 4096 := by omega
      clear e1 h1 h4
      go_enter Try.func18, Try.ntmps18
      go_wp2
      go_ret
      exact ⟨by simp, (Below.refl _ _).alloc (Nat.le_refl _) _⟩
    · have e1 : (decide (n1 ≤ 4096 ∧ n2 ≤ 4096)) = false := by simp [h4]
      rw [e1]
      have h1' : (n1 : Int) ≤ 4096 := by omega
      have h4' : ¬ (n2 : Int) ≤ 4096 := by omega
      clear e1 h1 h4
      go_enter Try.func18, Try.ntmps18
      go_wp2
      go_ret
      exact ⟨by simp, (Below.refl _ _).alloc (Nat.le_refl _) _⟩
  · have e1 : (decide (n1 ≤ 4096 ∧ n2 ≤ 4096)) = false := by simp [h1]
    rw [e1]
    have h1' : ¬ (n1 : Int) ≤ 4096 := by omega
    clear e1 h1
    go_enter Try.func18, Try.ntmps18
    go_wp2
    go_ret
    exact ⟨rfl, (Below.refl _ _).alloc (Nat.le_refl _) _⟩

theorem toSite_any (nm : ByteArray) (a1 a2 : Option Addr) (n1 p1 n2 p2 : Nat) (w : World) :
    Calls Try.prog 23 #[.agg #[.string nm, .slice a1 n1 p1, .slice a2 n2 p2]] w fun e w' => e = .returned (.agg #[.string nm, .slice a1 n1 p1, .slice a2 n2 p2]) ∧ Below w.heap.size w w' := by
  go_enter Try.func23, Try.ntmps23
  go_wp2
  refine bodyPost_ret (v := .agg #[.string nm, .slice a1 n1 p1, .slice a2 n2 p2]) (by simp [results, Try.results23, go_sem]) rfl ⟨rfl, ?_⟩
  exact ((Below.refl _ _).alloc (Nat.le_refl _) _).alloc (by simp) _

/-- The parameter's box while the statement runs. -/
abbrev Box8S (w : World) (c0 c1 c2 c3 c4 c5 c6 c7 : Value) (w' : World) : Prop :=
  w'.cell? ⟨w.heap.size, 0, none⟩ = some c0 ∧ w'.cell? ⟨w.heap.size, 1, none⟩ = some c1 ∧ w'.cell? ⟨w.heap.size, 2, none⟩ = some c2 ∧ w'.cell? ⟨w.heap.size, 3, none⟩ = some c3 ∧ w'.cell? ⟨w.heap.size, 4, none⟩ = some c4 ∧ w'.cell? ⟨w.heap.size, 5, none⟩ = some c5 ∧ w'.cell? ⟨w.heap.size, 6, none⟩ = some c6 ∧ w'.cell? ⟨w.heap.size, 7, none⟩ = some c7 ∧ w.heap.size + 1 ≤ w'.heap.size ∧ Below w.heap.size w w'

theorem Box8S.start (w : World) (c0 c1 c2 c3 c4 c5 c6 c7 : Value) : Box8S w c0 c1 c2 c3 c4 c5 c6 c7 (w.alloc (.cells #[c0, c1, c2, c3, c4, c5, c6, c7] 40)).drew := by
  refine ⟨?_, ?_, ?_, ?_, ?_, ?_, ?_, ?_, by simp, ((Below.refl _ _).alloc (Nat.le_refl _) _).drew⟩
  all_goals simp [go_sem]

theorem Box8S.next {w w1 w2 : World} {c0 c1 c2 c3 c4 c5 c6 c7 : Value} (h : Box8S w c0 c1 c2 c3 c4 c5 c6 c7 w1) (hb : Below w1.heap.size w1 w2) : Box8S w c0 c1 c2 c3 c4 c5 c6 c7 w2 := by
  obtain ⟨h0, h1, h2, h3, h4, h5, h6, h7, hs, hB⟩ := h
  have hc : ∀ j, w2.cell? ⟨w.heap.size, j, none⟩ = w1.cell? ⟨w.heap.size, j, none⟩ := fun j => hb.cell (by simp; omega)
  have hz := hb.size
  exact ⟨(hc 0).trans h0, (hc 1).trans h1, (hc 2).trans h2, (hc 3).trans h3, (hc 4).trans h4, (hc 5).trans h5, (hc 6).trans h6, (hc 7).trans h7, by omega, hB.trans (hb.mono (by omega))⟩

theorem Box8S.alloc {w w1 : World} {c0 c1 c2 c3 c4 c5 c6 c7 : Value} (h : Box8S w c0 c1 c2 c3 c4 c5 c6 c7 w1) (o : Obj) : Box8S w c0 c1 c2 c3 c4 c5 c6 c7 (w1.alloc o) := h.next ((Below.refl _ _).alloc (Nat.le_refl _) _)

theorem Box8S.src {w w1 : World} {c0 c1 c2 c3 c4 c5 c6 c7 : Value} (h : Box8S w c0 c1 c2 c3 c4 c5 c6 c7 w1) : Below w.heap.size w w1 ∧ w.heap.size + 1 ≤ w1.heap.size := by
  obtain ⟨h0, h1, h2, h3, h4, h5, h6, h7, hs, hB⟩ := h
  exact ⟨hB, hs⟩

set_option maxRecDepth 100000 in
set_option maxHeartbeats 1600000 in
theorem bytesOfSnap_any (r sv : Int) (sn : ByteArray) (c1 c2 c3 c4 c5 : Value) (n : News) (w : World) {lo hi : Nat} (hsn : sn.size ≤ maxLen) (h : NewsAt lo hi w c1 c2 c3 c4 c5 n) (hh : hi ≤ w.heap.size) :
    Calls Try.prog 16 #[.agg #[.int .u64 r, c1, c2, c3, c4, c5, .string sn, .int .u64 sv]] w fun e w' => (∃ z, e = .returned (.int .i64 z)) ∧ Below w.heap.size w w' := by
  have k1 : ∀ w1, Box8S w (.int .u64 r) c1 c2 c3 c4 c5 (.string sn) (.int .u64 sv) w1 → Calls Try.prog 10 #[.agg #[.int .u64 r, c1, c2, c3, c4, c5]] w1 fun e w' => (∃ z, e = .returned (.int .i64 z)) ∧ Below w1.heap.size w1 w' := fun w1 hS => bytesOfNews_any r c1 c2 c3 c4 c5 n w1 (h.same (Same.below hS.src.1 hh)) (by have := hS.src.2; omega)
  have k2 : ∀ (x y : Int) (w1 : World), Calls Try.prog 9 #[.int .i64 x, .int .i64 y] w1 fun e w' => (∃ z, e = .returned (.int .i64 z)) ∧ Below w1.heap.size w1 w' := fun x y w1 => (addB_any x y w1).mono (by rintro e w' ⟨h, rfl⟩; exact ⟨h, Below.refl _ _⟩)
  have K1 := hide k1
  have K2 := hide k2
  clear k1 k2 h
  go_enter Try.func16, Try.ntmps16
  go_wp2_with fail
  go_region_held3 (fun w' => w'.cell? ⟨w.heap.size, 0, none⟩ = some (.int .u64 r) ∧ w'.cell? ⟨w.heap.size, 1, none⟩ = some c1 ∧ w'.cell? ⟨w.heap.size, 2, none⟩ = some c2 ∧ w'.cell? ⟨w.heap.size, 3, none⟩ = some c3 ∧ w'.cell? ⟨w.heap.size, 4, none⟩ = some c4 ∧ w'.cell? ⟨w.heap.size, 5, none⟩ = some c5 ∧ w'.cell? ⟨w.heap.size, 6, none⟩ = some (.string sn) ∧ w'.cell? ⟨w.heap.size, 7, none⟩ = some (.int .u64 sv) ∧ w.heap.size + 1 ≤ w'.heap.size ∧ Below w.heap.size w w') (first | with_reducible assumption | with_reducible exact Box8S.next (w := w) (c0 := .int .u64 r) (c1 := c1) (c2 := c2) (c3 := c3) (c4 := c4) (c5 := c5) (c6 := .string sn) (c7 := .int .u64 sv) (by assumption) (by assumption) | with_reducible exact Box8S.alloc (w := w) (c0 := .int .u64 r) (c1 := c1) (c2 := c2) (c3 := c3) (c4 := c4) (c5 := c5) (c6 := .string sn) (c7 := .int .u64 sv) (by assumption) _ | with_reducible exact Box8S.start w (.int .u64 r) c1 c2 c3 c4 c5 (.string sn) (.int .u64 sv)) (first | (go_at_call 10; refine (unhide K1 _ ?_).mono ?_; assumption; rintro e w1 ⟨⟨z1, rfl⟩, b1⟩) | (go_at_call 9; refine (unhide K2 _ _ _).mono ?_; rintro e w2 ⟨⟨z2, rfl⟩, b2⟩))
  all_goals
    rename_i hHeld
    have HB := hide (Box8S.src (w := w) (c0 := .int .u64 r) (c1 := c1) (c2 := c2) (c3 := c3) (c4 := c4) (c5 := c5) (c6 := .string sn) (c7 := .int .u64 sv) hHeld).1
    clear hHeld
    go_wp2
    go_ret
    exact ⟨⟨_, rfl⟩, unhide HB⟩

set_option maxRecDepth 100000 in
set_option maxHeartbeats 1600000 in
theorem toNews_two (r : Int) (c1 c2 c3 c4 c5 : Value) (force : Bool) (mn : List ByteArray) (ms : List Int) (vs : List Value) (fn : List ByteArray) (fv : List Int) (w : World) {lo hi : Nat} (g1 : StrsAt lo hi w c1 mn) (g2 : WordsAt lo hi w c2 ms) (g3 : RowAt 24 lo hi w c3 vs) (g3s : ∀ i, i < vs.length → ∃ ao n cap, vs.getD i undef = .slice ao n cap) (g4 : StrsAt lo hi w c4 fn) (g5 : WordsAt lo hi w c5 fv) (hh : hi ≤ w.heap.size) :
    Calls Try.prog 13 #[.agg #[.int .u64 r, c1, c2, c3, c4, c5], .bool force] w fun e w' => ∃ m1 m2, e = .returned (.agg #[.int .u64 r, .map m1, .map m2]) ∧ MapIs mkR w.heap.size w'.heap.size w' m1 mn.length (mapOf (marks mn ms vs)) ∧ MapIs fiR w.heap.size w'.heap.size w' m2 fn.length (mapOf (fins fn fv)) ∧ (force = true → m1 ≠ none ∧ m2 ≠ none) ∧ (∀ b, m1 = some b → m2 ≠ some b) ∧ Below w.heap.size w w' := by
  have k1 : ∀ w1, ToNewsS w (.int .u64 r) c1 c2 c3 c4 c5 w1 → Calls Try.prog 47 #[c1, c2, c3, .bool force] w1 fun e w' => ∃ mo, e = .returned (.map mo) ∧ MapIs mkR w1.heap.size w'.heap.size w' mo mn.length (mapOf (marks mn ms vs)) ∧ (force = true → mo ≠ none) ∧ Below w1.heap.size w1 w' := fun w1 hS => by
    have hs := Same.below (lo := lo) hS.src.1 hh
    exact buildMarkers_any c1 c2 c3 force mn ms vs w1 (g1.same hs) (g2.same hs) (g3.same hs) g3s (by have := hS.src.2; omega)
  have k2 : ∀ w1, ToNewsS w (.int .u64 r) c1 c2 c3 c4 c5 w1 → Calls Try.prog 48 #[c4, c5, .bool force] w1 fun e w' => ∃ mo, e = .returned (.map mo) ∧ MapIs fiR w1.heap.size w'.heap.size w' mo fn.length (mapOf (fins fn fv)) ∧ (force = true → mo ≠ none) ∧ Below w1.heap.size w1 w' := fun w1 hS => by
    have hs := Same.below (lo := lo) hS.src.1 hh
    exact buildFinals_any c4 c5 force fn fv w1 (g4.same hs) (g5.same hs) (by have := hS.src.2; omega)
  have K1 := hide k1
  have K2 := hide k2
  clear k1 k2 g1 g2 g3 g3s g4 g5
  go_enter Try.func13, Try.ntmps13
  go_wp2_with fail
  go_region_held3 (fun w' => w'.cell? ⟨w.heap.size, 0, none⟩ = some (.int .u64 r) ∧ w'.cell? ⟨w.heap.size, 1, none⟩ = some c1 ∧ w'.cell? ⟨w.heap.size, 2, none⟩ = some c2 ∧ w'.cell? ⟨w.heap.size, 3, none⟩ = some c3 ∧ w'.cell? ⟨w.heap.size, 4, none⟩ = some c4 ∧ w'.cell? ⟨w.heap.size, 5, none⟩ = some c5 ∧ w'.cell? ⟨w.heap.size + 1, 0, none⟩ = some (peek w' (w.heap.size + 1) 0) ∧ w'.cell? ⟨w.heap.size + 1, 1, none⟩ = some (peek w' (w.heap.size + 1) 1) ∧ w'.cell? ⟨w.heap.size + 1, 2, none⟩ = some (peek w' (w.heap.size + 1) 2) ∧ w'.frozen? ⟨w.heap.size + 1, 0, none⟩ = false ∧ w'.frozen? ⟨w.heap.size + 1, 1, none⟩ = false ∧ w'.frozen? ⟨w.heap.size + 1, 2, none⟩ = false ∧ w.heap.size + 2 ≤ w'.heap.size ∧ Below w.heap.size w w') (first | with_reducible exact ToNewsS.step (by assumption) (by assumption) | with_reducible exact ToNewsS.start _ _ _ _ _ _ _ _ _ _ | (with_reducible (repeat refine ToNewsS.set ?_ _ _); assumption))
    (first | (go_at_call 47; refine (unhide K1 _ ?_).mono ?_; assumption; rintro e w1 ⟨m1, rfl, t1, f1, b1⟩) | (go_at_call 48; refine (unhide K2 _ ?_).mono ?_; assumption; rintro e w2 ⟨m2, rfl, t2, f2, b2⟩))
  obtain ⟨q0, q1, q2⟩ := ToNewsS.box (below2 b1 b2 (by simp))
  have hB : Below w.heap.size w w2 := (((Below.refl _ w).alloc (Nat.le_refl _) _).alloc (by simp) _).drew.trans (below2 b1 b2 (by simp; omega))
  have z1 := b1.size
  have z2 := b2.size
  simp at z1
  have hm1 : MapIs mkR (w.heap.size + 2) w2.heap.size w2 m1 mn.length (mapOf (marks mn ms vs)) := (t1.same (Same.below b2 (Nat.le_refl _))).mono (by simp) z2
  have hm2 : MapIs fiR (w.heap.size + 2) w2.heap.size w2 m2 fn.length (mapOf (fins fn fv)) := t2.mono (by omega) (Nat.le_refl _)
  have HF : Hid (force = true → m1 ≠ none ∧ m2 ≠ none) := fun h => ⟨f1 h, f2 h⟩
  have HD : Hid (∀ b, m1 = some b → m2 ≠ some b) := fun b e e' => by
    subst e
    subst e'
    have h1 := t1.2.1
    have h2 := t2.1
    omega
  have HB := hide hB
  have H1 := hide hm1
  have H2 := hide hm2
  clear hB t1 t2 b1 b2 hm1 hm2 f1 f2 z1 z2
  go_wp2
  refine bodyPost_ret (v := .agg #[.int .u64 r, .map m1, .map m2]) (by simp [results, Try.results13, go_sem, q0, q1, q2]) rfl ⟨m1, m2, rfl, ?_, ?_, unhide HF, unhide HD, ?_⟩
  · exact ((unhide H1).same ((((Same.refl _ _ _).setCell _ _ (Or.inl (by simp))).setCell _ _ (Or.inl (by simp))).setCell _ _ (Or.inl (by simp)))).mono (by omega) (by simp)
  · exact ((unhide H2).same ((((Same.refl _ _ _).setCell _ _ (Or.inl (by simp))).setCell _ _ (Or.inl (by simp))).setCell _ _ (Or.inl (by simp)))).mono (by omega) (by simp)
  · exact (((unhide HB).setCell (by simp) _).setCell (by simp) _).setCell (by simp) _

set_option maxRecDepth 100000 in
set_option maxHeartbeats 1600000 in
theorem toSnap_any (r sv : Int) (sn : ByteArray) (c1 c2 c3 c4 c5 : Value) (mn : List ByteArray) (ms : List Int) (vs : List Value) (fn : List ByteArray) (fv : List Int) (w : World) {lo hi : Nat} (g1 : StrsAt lo hi w c1 mn) (g2 : WordsAt lo hi w c2 ms) (g3 : RowAt 24 lo hi w c3 vs) (g3s : ∀ i, i < vs.length → ∃ ao n cap, vs.getD i undef = .slice ao n cap) (g4 : StrsAt lo hi w c4 fn) (g5 : WordsAt lo hi w c5 fv) (hh : hi ≤ w.heap.size) :
    Calls Try.prog 21 #[.agg #[.int .u64 r, c1, c2, c3, c4, c5, .string sn, .int .u64 sv]] w fun e w' => ∃ B m1 m2, e = .returned (.pointer (some ⟨B, 0, none⟩)) ∧ (w.heap.size ≤ B ∧ w'.heap[B]? = some (.cells #[.int .u64 r, .map m1, .map m2, .string sn, .int .u64 sv] 59 (0, 0))) ∧
      MapIs mkR w.heap.size w'.heap.size w' m1 mn.length (mapOf (marks mn ms vs)) ∧ MapIs fiR w.heap.size w'.heap.size w' m2 fn.length (mapOf (fins fn fv)) ∧ (0 < r → m1 ≠ none ∧ m2 ≠ none) ∧ (∀ b, m1 = some b → m2 ≠ some b) ∧ Below w.heap.size w w' := by
  have k1 : ∀ (force : Bool) w1, Box8S w (.int .u64 r) c1 c2 c3 c4 c5 (.string sn) (.int .u64 sv) w1 → Calls Try.prog 13 #[.agg #[.int .u64 r, c1, c2, c3, c4, c5], .bool force] w1 fun e w' => ∃ m1 m2, e = .returned (.agg #[.int .u64 r, .map m1, .map m2]) ∧ MapIs mkR w1.heap.size w'.heap.size w' m1 mn.length (mapOf (marks mn ms vs)) ∧ MapIs fiR w1.heap.size w'.heap.size w' m2 fn.length (mapOf (fins fn fv)) ∧ (force = true → m1 ≠ none ∧ m2 ≠ none) ∧ (∀ b, m1 = some b → m2 ≠ some b) ∧ Below w1.heap.size w1 w' := fun force w1 hS => by
    have hs := Same.below (lo := lo) hS.src.1 hh
    exact toNews_two r c1 c2 c3 c4 c5 force mn ms vs fn fv w1 (g1.same hs) (g2.same hs) (g3.same hs) g3s (g4.same hs) (g5.same hs) (by have := hS.src.2; omega)
  have K1 := hide k1
  clear k1 g1 g2 g3 g3s g4 g5
  go_enter Try.func21, Try.ntmps21
  go_wp2_with fail
  go_region_held3 (fun w' => w'.cell? ⟨w.heap.size, 0, none⟩ = some (.int .u64 r) ∧ w'.cell? ⟨w.heap.size, 1, none⟩ = some c1 ∧ w'.cell? ⟨w.heap.size, 2, none⟩ = some c2 ∧ w'.cell? ⟨w.heap.size, 3, none⟩ = some c3 ∧ w'.cell? ⟨w.heap.size, 4, none⟩ = some c4 ∧ w'.cell? ⟨w.heap.size, 5, none⟩ = some c5 ∧ w'.cell? ⟨w.heap.size, 6, none⟩ = some (.string sn) ∧ w'.cell? ⟨w.heap.size, 7, none⟩ = some (.int .u64 sv) ∧ w.heap.size + 1 ≤ w'.heap.size ∧ Below w.heap.size w w') (first | with_reducible assumption | with_reducible exact Box8S.next (w := w) (c0 := .int .u64 r) (c1 := c1) (c2 := c2) (c3 := c3) (c4 := c4) (c5 := c5) (c6 := .string sn) (c7 := .int .u64 sv) (by assumption) (by assumption) | with_reducible exact Box8S.alloc (w := w) (c0 := .int .u64 r) (c1 := c1) (c2 := c2) (c3 := c3) (c4 := c4) (c5 := c5) (c6 := .string sn) (c7 := .int .u64 sv) (by assumption) _ | with_reducible exact Box8S.start w (.int .u64 r) c1 c2 c3 c4 c5 (.string sn) (.int .u64 sv)) (first | (go_at_call 13; refine (unhide K1 _ _ ?_).mono ?_; assumption; rintro e w1 ⟨m1, m2, rfl, t1, t2, f1, d1, b1⟩))
  all_goals
    rename_i hHeld
    have HB := hide (Box8S.src (w := w) (c0 := .int .u64 r) (c1 := c1) (c2 := c2) (c3 := c3) (c4 := c4) (c5 := c5) (c6 := .string sn) (c7 := .int .u64 sv) hHeld).1
    obtain ⟨o, ho⟩ : ∃ o : Obj, o = .cells #[.int .u64 r, .map m1, .map m2, .string sn, .int .u64 sv] 59 := ⟨_, rfl⟩
    have HT1 := hide ((t1.same (w' := w1.alloc o) ((Same.refl _ _ _).alloc o (Nat.le_refl _))).mono (lo' := w.heap.size) (hi' := (w1.alloc o).heap.size) (by simp) (by simp))
    have HT2 := hide ((t2.same (w' := w1.alloc o) ((Same.refl _ _ _).alloc o (Nat.le_refl _))).mono (lo' := w.heap.size) (hi' := (w1.alloc o).heap.size) (by simp) (by simp))
    have HF : Hid (0 < r → m1 ≠ none ∧ m2 ≠ none) := hide (fun h => f1 (by simpa using h))
    have HD := hide d1
    have hz : w.heap.size + 1 ≤ w1.heap.size := by have := b1.size; simpa using this
    rw [ho] at HT1 HT2
    clear hHeld t1 t2 f1 b1 ho d1
    go_wp2
    go_ret
    exact ⟨w1.heap.size, m1, m2, rfl, ⟨by omega, heap_alloc_new w1 _⟩, unhide HT1, unhide HT2, unhide HF, unhide HD, unhide HB⟩

end Go.Proofs.Qxb6601448a
