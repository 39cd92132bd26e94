/- Sorting by insertion, with no Go in sight: what modelPeers makes is what record keeps. -/
import Derived.Test.Qxb6601448aRec
import Derived.Sort.Walk0
namespace Go.Proofs.Qxb6601448a
open Go.RowKit
set_option linter.unusedVariables false

/-- a comes not behind b. -/
def leB (a b : ByteArray) : Prop := Op.bytesLess b.toList a.toList = false

theorem leB_iff {a b : ByteArray} : leB a b ↔ a.toList ≤ b.toList := by
  unfold leB
  rw [Go.Proofs.bytesLess_eq, decide_eq_false_iff_not, List.not_lt]
theorem leB_trans {a b c : ByteArray} (h : leB a b) (k : leB b c) : leB a c := leB_iff.2 (List.le_trans (leB_iff.1 h) (leB_iff.1 k))
theorem leB_of_less {a b : ByteArray} (h : Op.bytesLess a.toList b.toList = true) : leB a b := by
  rw [Go.Proofs.bytesLess_eq, decide_eq_true_eq] at h
  exact leB_iff.2 (List.le_of_lt h)
theorem leB_anti {a b : ByteArray} (h : leB a b) (k : leB b a) : a = b := by
  have h1 : a.toList = b.toList := List.le_antisymm (leB_iff.1 h) (leB_iff.1 k)
  rw [ByteArray.toList_eq, ByteArray.toList_eq] at h1
  cases a; cases b
  congr
  exact Array.toList_inj.1 h1

abbrev nth (ys : List ByteArray) (i : Nat) : ByteArray := ys.getD i ByteArray.empty
theorem nth_set {ys : List ByteArray} {j : Nat} (hj : j < ys.length) (x : ByteArray) (k : Nat) : nth (ys.set j x) k = if k = j then x else nth ys k := by
  by_cases h : k = j
  · subst h
    simp [hj]
  · simp [h, Ne.symm h]

/-- The first i stand in order. -/
def Ord (fl ys : List ByteArray) (i : Nat) : Prop := ys.Perm fl ∧ ∀ a b, a < b → b < i → leB (nth ys a) (nth ys b)
/-- The first i + 1 stand in order, but for the j-th. -/
def Ins (fl ys : List ByteArray) (i j : Nat) : Prop := ys.Perm fl ∧ ∀ a b, a < b → b ≤ i → b ≠ j → leB (nth ys a) (nth ys b)

theorem Ord.begin (fl : List ByteArray) : Ord fl fl 1 := ⟨List.Perm.refl _, fun a b h1 h2 => by omega⟩
theorem Ord.start {fl ys : List ByteArray} {i : Nat} (h : Ord fl ys i) : Ins fl ys i i := ⟨h.1, fun a b h1 h2 h3 => h.2 a b h1 (by omega)⟩
theorem Ins.stop {fl ys : List ByteArray} {i j : Nat} (h : Ins fl ys i j) (hs : 0 < j → Op.bytesLess (nth ys j).toList (nth ys (j - 1)).toList = false) : Ord fl ys (i + 1) := by
  refine ⟨h.1, fun a b h1 h2 => ?_⟩
  by_cases hb : b = j
  · subst hb
    have hl : leB (nth ys (b - 1)) (nth ys b) := hs (by omega)
    by_cases ha : a = b - 1
    · rw [ha]; exact hl
    · exact leB_trans (h.2 a (b - 1) (by omega) (by omega) (by omega)) hl
  · exact h.2 a b h1 (by omega) hb
theorem swap_perm {ys : List ByteArray} {j : Nat} (hj : j < ys.length) (h0 : 0 < j) : ((ys.set j (nth ys (j - 1))).set (j - 1) (nth ys j)).Perm ys := by
  have h := Array.swap_perm (xs := ys.toArray) (i := j) (j := j - 1) (by simpa using hj) (by simp; omega)
  have h2 := h.toList
  have e : (ys.toArray.swap j (j - 1) (by simpa using hj) (by simp; omega)).toList = (ys.set j (nth ys (j - 1))).set (j - 1) (nth ys j) := by
    simp [Array.swap, hj, show j - 1 < ys.length by omega]
  rw [e] at h2
  simpa using h2
theorem Ins.step {fl ys : List ByteArray} {i j : Nat} (h : Ins fl ys i j) (hi : i < ys.length) (hj : j ≤ i) (h0 : 0 < j) (hs : Op.bytesLess (nth ys j).toList (nth ys (j - 1)).toList = true) : Ins fl ((ys.set j (nth ys (j - 1))).set (j - 1) (nth ys j)) i (j - 1) := by
  have hjl : j < ys.length := by omega
  refine ⟨(swap_perm hjl h0).trans h.1, fun a b h1 h2 h3 => ?_⟩
  have hn : ∀ k, nth ((ys.set j (nth ys (j - 1))).set (j - 1) (nth ys j)) k = if k = j - 1 then nth ys j else if k = j then nth ys (j - 1) else nth ys k := fun k => by
    rw [nth_set (by rw [List.length_set]; omega), nth_set hjl]
  have hl := leB_of_less hs
  rw [hn a, hn b, if_neg h3]
  by_cases hb : b = j
  · rw [if_pos hb]
    by_cases ha : a = j - 1
    · rw [if_pos ha]; exact hl
    · rw [if_neg ha, if_neg (by omega)]
      exact h.2 a (j - 1) (by omega) (by omega) (by omega)
  · rw [if_neg hb]
    by_cases ha : a = j - 1
    · rw [if_pos ha]
      exact h.2 j b (by omega) h2 hb
    · rw [if_neg ha]
      by_cases ha2 : a = j
      · rw [if_pos ha2]
        exact h.2 (j - 1) b (by omega) h2 hb
      · rw [if_neg ha2]
        exact h.2 a b h1 h2 hb

theorem raw_back (l : List UInt8) : raw (back l) = l := by simp [raw]
theorem back_raw (s : ByteArray) : back (raw s) = s := by simp [raw]

theorem kept_pairwise (pl es : List ByteArray) : (kept pl es).Pairwise leB := by
  unfold kept
  refine List.Pairwise.filter _ ?_
  rw [List.pairwise_map]
  have h := List.pairwise_mergeSort (le := fun x y : List UInt8 => decide (x ≤ y)) (fun a b c h1 h2 => by simp only [decide_eq_true_eq] at *; exact List.le_trans h1 h2) (fun a b => by simp only [Bool.or_eq_true, decide_eq_true_eq]; exact List.le_total a b) (pl.map raw)
  refine h.imp ?_
  intro a b hab
  rw [leB_iff, ByteArray.toList_eq, ByteArray.toList_eq]
  simpa using hab
theorem kept_perm (pl es : List ByteArray) : (kept pl es).Perm (pl.filter fun s => !memS es s) := by
  unfold kept
  refine List.Perm.filter _ ?_
  have := (List.mergeSort_perm (pl.map raw) fun x y => decide (x ≤ y)).map back
  rw [List.map_map] at this
  have e : pl.map (back ∘ raw) = pl := by
    rw [show (back ∘ raw) = id from funext back_raw, List.map_id]
  rw [e] at this
  exact this

theorem Ord.done {pl es ys : List ByteArray} (h : Ord (pl.filter fun s => !memS es s) ys ys.length) : ys = kept pl es := by
  refine List.Perm.eq_of_pairwise (le := leB) (fun a b _ _ h1 h2 => leB_anti h1 h2) ?_ (kept_pairwise pl es) (h.1.trans (kept_perm pl es).symm)
  rw [List.pairwise_iff_getElem]
  intro i j hi hj hij
  have := h.2 i j hij hj
  simpa [List.getD, hi, hj] using this

end Go.Proofs.Qxb6601448a
