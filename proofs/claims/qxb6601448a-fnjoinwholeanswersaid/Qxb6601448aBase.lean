/- Plain words for what lies in memory: slices of one-cell elements, of strings, of slices of strings; how they fare while memory grows. -/
import Derived.WalkKit
import Derived.Below
import Derived.Maps.RangeWalk
namespace Go.Proofs.Qxb6601448a
open Go.RowKit

theorem hide {p : Prop} (h : p) : Hid p := h
theorem unhide {p : Prop} (h : Hid p) : p := h

/-- v is a slice value whose elements, of one cell each and sz bytes wide, are xs; its cells lie in a block from lo on, below hi. -/
def RowAt (sz lo hi : Nat) (w : World) (v : Value) (xs : List Value) : Prop :=
  ∃ (ao : Option Addr) (cap : Nat), v = .slice ao xs.length cap ∧ xs.length ≤ cap ∧ xs.length * sz ≤ 140737488351232 ∧
    ((ao = none ∧ xs = [] ∧ cap = 0) ∨ (xs = [] ∧ ∃ x, ao = some x) ∨
      ∃ b off, ao = some ⟨b, off, none⟩ ∧ lo ≤ b ∧ b < hi ∧ xs ≠ [] ∧ ∀ i, i < xs.length → w.cell? ⟨b, off + i, none⟩ = some (xs.getD i undef))

/-- v is a slice of the strings ss. -/
def StrsAt (lo hi : Nat) (w : World) (v : Value) (ss : List ByteArray) : Prop := RowAt 16 lo hi w v (ss.map Value.string) ∧ ∀ s ∈ ss, s.size ≤ maxLen

/-- v is a slice of the 64-bit words zs. -/
def WordsAt (lo hi : Nat) (w : World) (v : Value) (zs : List Int) : Prop := RowAt 8 lo hi w v (zs.map (Value.int .u64)) ∧ ∀ z ∈ zs, (Lit.int .u64 z).wf = true

/-- Each value of the first list is a slice of the strings of the second. -/
def StrsEach (lo hi : Nat) (w : World) (vs : List Value) (sss : List (List ByteArray)) : Prop :=
  vs.length = sss.length ∧ ∀ i, i < vs.length → StrsAt lo hi w (vs.getD i undef) (sss.getD i [])

/-- v is a slice of slices of strings. -/
def NestAt (lo hi : Nat) (w : World) (v : Value) (sss : List (List ByteArray)) : Prop := ∃ vs, RowAt 24 lo hi w v vs ∧ StrsEach lo hi w vs sss

theorem cell_lt {w : World} {a : Addr} {v : Value} (h : w.cell? a = some v) : a.block < w.heap.size := by
  unfold World.cell? at h
  by_cases hb : a.block < w.heap.size
  · exact hb
  · rw [Array.getElem?_eq_none (by omega)] at h
    simp at h

/-- From lo on and below hi the second world is as the first. -/
def Same (lo hi : Nat) (w w' : World) : Prop := ∀ k, lo ≤ k → k < hi → w'.heap[k]? = w.heap[k]?

theorem Same.below {B lo hi : Nat} {w w' : World} (h : Below B w w') (hh : hi ≤ B) : Same lo hi w w' := fun k _ h2 => h.block k (by omega)
theorem Same.refl (lo hi : Nat) (w : World) : Same lo hi w w := fun _ _ _ => rfl
theorem Same.trans {lo hi : Nat} {a b c : World} (h : Same lo hi a b) (k : Same lo hi b c) : Same lo hi a c := fun i h1 h2 => (k i h1 h2).trans (h i h1 h2)
theorem Same.mono {lo hi lo' hi' : Nat} {a b : World} (h : Same lo hi a b) (h1 : lo ≤ lo') (h2 : hi' ≤ hi) : Same lo' hi' a b := fun i h3 h4 => h i (by omega) (by omega)
theorem Same.alloc {lo hi : Nat} {a b : World} (h : Same lo hi a b) (o : Obj) (hb : hi ≤ b.heap.size) : Same lo hi a (b.alloc o) := fun k h1 h2 => (Below.heap_alloc _ _ _ (by omega)).trans (h k h1 h2)
theorem Same.drew {lo hi : Nat} {a b : World} (h : Same lo hi a b) : Same lo hi a b.drew := h
theorem Same.setCell {lo hi : Nat} {a b : World} (h : Same lo hi a b) (p : Addr) (u : Value) (hp : p.block < lo ∨ hi ≤ p.block) : Same lo hi a (b.setCell p u) := fun k h1 h2 => (Below.heap_setCell _ _ _ _ (by omega)).trans (h k h1 h2)
theorem Same.grown {lo hi : Nat} {a b c : World} {row : Option Nat} (h : Same lo hi a b) (hg : b.grownBy c row) (hb : hi ≤ b.heap.size) (hr : ∀ k, row = some k → k < lo ∨ hi ≤ k) : Same lo hi a c :=
  fun k h1 h2 => (hg.block k (by omega) (fun e => by have := hr k e.symm; omega)).trans (h k h1 h2)

theorem RowAt.same {sz lo hi : Nat} {w w' : World} {v : Value} {xs : List Value} (h : RowAt sz lo hi w v xs) (hb : Same lo hi w w') : RowAt sz lo hi w' v xs := by
  obtain ⟨ao, cap, rfl, h1, h2, h3⟩ := h
  refine ⟨ao, cap, rfl, h1, h2, ?_⟩
  rcases h3 with h3 | h3 | ⟨b, off, h4, hl, hh, h5, h6⟩
  · exact Or.inl h3
  · exact Or.inr (Or.inl h3)
  · refine Or.inr (Or.inr ⟨b, off, h4, hl, hh, h5, fun i hi => ?_⟩)
    rw [World.cell?_of_block (w := w) (hb b hl hh)]
    exact h6 i hi

theorem RowAt.mono {sz lo hi lo' hi' : Nat} {w : World} {v : Value} {xs : List Value} (h : RowAt sz lo hi w v xs) (h1 : lo' ≤ lo) (h2 : hi ≤ hi') : RowAt sz lo' hi' w v xs := by
  obtain ⟨ao, cap, rfl, h3, h4, h5⟩ := h
  refine ⟨ao, cap, rfl, h3, h4, ?_⟩
  rcases h5 with h5 | h5 | ⟨b, off, h6, hl, hh, h7⟩
  · exact Or.inl h5
  · exact Or.inr (Or.inl h5)
  · exact Or.inr (Or.inr ⟨b, off, h6, by omega, by omega, h7⟩)

theorem StrsAt.same {lo hi : Nat} {w w' : World} {v : Value} {ss : List ByteArray} (h : StrsAt lo hi w v ss) (hb : Same lo hi w w') : StrsAt lo hi w' v ss := ⟨h.1.same hb, h.2⟩
theorem StrsAt.mono {lo hi lo' hi' : Nat} {w : World} {v : Value} {ss : List ByteArray} (h : StrsAt lo hi w v ss) (h1 : lo' ≤ lo) (h2 : hi ≤ hi') : StrsAt lo' hi' w v ss := ⟨h.1.mono h1 h2, h.2⟩
theorem WordsAt.same {lo hi : Nat} {w w' : World} {v : Value} {zs : List Int} (h : WordsAt lo hi w v zs) (hb : Same lo hi w w') : WordsAt lo hi w' v zs := ⟨h.1.same hb, h.2⟩
theorem WordsAt.mono {lo hi lo' hi' : Nat} {w : World} {v : Value} {zs : List Int} (h : WordsAt lo hi w v zs) (h1 : lo' ≤ lo) (h2 : hi ≤ hi') : WordsAt lo' hi' w v zs := ⟨h.1.mono h1 h2, h.2⟩
theorem StrsEach.same {lo hi : Nat} {w w' : World} {vs : List Value} {sss : List (List ByteArray)} (h : StrsEach lo hi w vs sss) (hb : Same lo hi w w') : StrsEach lo hi w' vs sss := ⟨h.1, fun i hi => (h.2 i hi).same hb⟩
theorem StrsEach.mono {lo hi lo' hi' : Nat} {w : World} {vs : List Value} {sss : List (List ByteArray)} (h : StrsEach lo hi w vs sss) (h1 : lo' ≤ lo) (h2 : hi ≤ hi') : StrsEach lo' hi' w vs sss := ⟨h.1, fun i hi => (h.2 i hi).mono h1 h2⟩
theorem NestAt.same {lo hi : Nat} {w w' : World} {v : Value} {sss : List (List ByteArray)} (h : NestAt lo hi w v sss) (hb : Same lo hi w w') : NestAt lo hi w' v sss := by
  obtain ⟨vs, h1, h2⟩ := h
  exact ⟨vs, h1.same hb, h2.same hb⟩
theorem NestAt.mono {lo hi lo' hi' : Nat} {w : World} {v : Value} {sss : List (List ByteArray)} (h : NestAt lo hi w v sss) (h1 : lo' ≤ lo) (h2 : hi ≤ hi') : NestAt lo' hi' w v sss := by
  obtain ⟨vs, h3, h4⟩ := h
  exact ⟨vs, h3.mono h1 h2, h4.mono h1 h2⟩
theorem RowAt.shape {sz lo hi : Nat} {w : World} {v : Value} {xs : List Value} (h : RowAt sz lo hi w v xs) : ∃ ao cap, v = .slice ao xs.length cap := by
  obtain ⟨ao, cap, hv, _⟩ := h
  exact ⟨ao, cap, hv⟩
theorem StrsAt.shape {lo hi : Nat} {w : World} {v : Value} {ss : List ByteArray} (h : StrsAt lo hi w v ss) : ∃ ao cap, v = .slice ao ss.length cap := by
  obtain ⟨ao, cap, hv, _⟩ := h.1
  exact ⟨ao, cap, by simpa using hv⟩
theorem WordsAt.shape {lo hi : Nat} {w : World} {v : Value} {zs : List Int} (h : WordsAt lo hi w v zs) : ∃ ao cap, v = .slice ao zs.length cap := by
  obtain ⟨ao, cap, hv, _⟩ := h.1
  exact ⟨ao, cap, by simpa using hv⟩
theorem NestAt.shape {lo hi : Nat} {w : World} {v : Value} {sss : List (List ByteArray)} (h : NestAt lo hi w v sss) : ∃ ao cap, v = .slice ao sss.length cap := by
  obtain ⟨vs, ⟨ao, cap, hv, _⟩, h2⟩ := h
  exact ⟨ao, cap, by rw [← h2.1]; exact hv⟩

/-- What the walk is told of a slice of strings: it holds none; or its cells. -/
theorem StrsAt.open {lo hi : Nat} {w : World} {v : Value} {ss : List ByteArray} (h : StrsAt lo hi w v ss) :
    (∃ ao cap, v = .slice ao 0 cap ∧ ss = [] ∧ (ao = none → cap = 0)) ∨
    ∃ b off cap, b < hi ∧ lo ≤ b ∧ v = .slice (some ⟨b, off, none⟩) ss.length cap ∧ 0 < ss.length ∧ ss.length ≤ cap ∧ ss.length * 16 ≤ 140737488351232 ∧ ∀ i, i < ss.length → w.cell? ⟨b, off + i, none⟩ = some (.string (ss.getD i ByteArray.empty)) := by
  obtain ⟨⟨ao, cap, rfl, h1, h2, h3⟩, h4⟩ := h
  rcases h3 with ⟨rfl, hx, rfl⟩ | ⟨hx, x, rfl⟩ | ⟨b, off, rfl, hl, hh, h5, h6⟩
  · have : ss = [] := by simpa using hx
    subst this
    exact Or.inl ⟨none, 0, rfl, rfl, fun _ => rfl⟩
  · have : ss = [] := by simpa using hx
    subst this
    exact Or.inl ⟨some x, cap, rfl, rfl, fun h => by cases h⟩
  · refine Or.inr ⟨b, off, cap, hh, hl, by simp, ?_, by simpa using h1, by simpa using h2, fun i hi => ?_⟩
    · cases ss with
      | nil => simp at h5
      | cons => simp
    · rw [h6 i (by simpa using hi)]
      simp [List.getD, hi]

theorem WordsAt.open {lo hi : Nat} {w : World} {v : Value} {zs : List Int} (h : WordsAt lo hi w v zs) :
    (∃ ao cap, v = .slice ao 0 cap ∧ zs = [] ∧ (ao = none → cap = 0)) ∨
    ∃ b off cap, b < hi ∧ lo ≤ b ∧ v = .slice (some ⟨b, off, none⟩) zs.length cap ∧ 0 < zs.length ∧ zs.length ≤ cap ∧ zs.length * 8 ≤ 140737488351232 ∧ ∀ i, i < zs.length → w.cell? ⟨b, off + i, none⟩ = some (.int .u64 (zs.getD i 0)) := by
  obtain ⟨⟨ao, cap, rfl, h1, h2, h3⟩, h4⟩ := h
  rcases h3 with ⟨rfl, hx, rfl⟩ | ⟨hx, x, rfl⟩ | ⟨b, off, rfl, hl, hh, h5, h6⟩
  · have : zs = [] := by simpa using hx
    subst this
    exact Or.inl ⟨none, 0, rfl, rfl, fun _ => rfl⟩
  · have : zs = [] := by simpa using hx
    subst this
    exact Or.inl ⟨some x, cap, rfl, rfl, fun h => by cases h⟩
  · refine Or.inr ⟨b, off, cap, hh, hl, by simp, ?_, by simpa using h1, by simpa using h2, fun i hi => ?_⟩
    · cases zs with
      | nil => simp at h5
      | cons => simp
    · rw [h6 i (by simpa using hi)]
      simp [List.getD, hi]

theorem RowAt.open {sz lo hi : Nat} {w : World} {v : Value} {vs : List Value} (h : RowAt sz lo hi w v vs) :
    (∃ ao cap, v = .slice ao 0 cap ∧ vs = [] ∧ (ao = none → cap = 0)) ∨
    ∃ b off cap, b < hi ∧ lo ≤ b ∧ v = .slice (some ⟨b, off, none⟩) vs.length cap ∧ 0 < vs.length ∧ vs.length ≤ cap ∧ vs.length * sz ≤ 140737488351232 ∧ ∀ i, i < vs.length → w.cell? ⟨b, off + i, none⟩ = some (vs.getD i undef) := by
  obtain ⟨ao, cap, rfl, h1, h2, h3⟩ := h
  rcases h3 with ⟨rfl, rfl, rfl⟩ | ⟨rfl, x, rfl⟩ | ⟨b, off, rfl, hl, hh, h5, h6⟩
  · exact Or.inl ⟨none, 0, rfl, rfl, fun _ => rfl⟩
  · exact Or.inl ⟨some x, cap, rfl, rfl, fun h => by cases h⟩
  · refine Or.inr ⟨b, off, cap, hh, hl, rfl, ?_, h1, h2, h6⟩
    cases vs with
    | nil => simp at h5
    | cons => simp

end Go.Proofs.Qxb6601448a
