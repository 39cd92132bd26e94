/- A ZSnap and a ZSite argument, opened. -/
import Derived.Test.Qxb6601448aOpen
namespace Go.Proofs.Qxb6601448a
open Go.RowKit Go.ChangeShapes Go.WideShapes
set_option linter.unusedVariables false

theorem cells40 : Try.prog.cellsOf 40 = 8 := by kernel_rfl
theorem cells42 : Try.prog.cellsOf 42 = 3 := by kernel_rfl

theorem nonneg_wf {r : Int} (h : (Lit.int .u64 r).wf = true) : 0 ≤ r := by
  simp only [Lit.wf, Bool.and_eq_true, decide_eq_true_eq] at h
  exact h.1

section
variable {H : Type} {enc : TypeId × Value → H} {w : World} {base : Nat} {spare : Nat → Bool} {held : Bool}

theorem list8 {α : Type} {l : List α} (h : l.length = 8) : ∃ a b c d e f g i, l = [a, b, c, d, e, f, g, i] := by
  match l, h with
  | [a, b, c, d, e, f, g, i], _ => exact ⟨a, b, c, d, e, f, g, i, rfl⟩
theorem list3 {α : Type} {l : List α} (h : l.length = 3) : ∃ a b c, l = [a, b, c] := by
  match l, h with
  | [a, b, c], _ => exact ⟨a, b, c, rfl⟩

set_option maxRecDepth 100000 in
theorem open_snapCells {fuel : Nat} {cs : List Value} {x : DataW H × List MemPlace} (h : DataW.trod enc Try.prog w base spare held fuel 40 cs = some x) (hw : ∀ n ∈ x.1.weights Try.prog 40, n ≤ reachBytes) :
    ∃ r c1 c2 c3 c4 c5 n sn sv, cs = [.int .u64 r, c1, c2, c3, c4, c5, .string sn, .int .u64 sv] ∧ NewsAt 0 w.heap.size w c1 c2 c3 c4 c5 n ∧ 0 ≤ r ∧ sn.size ≤ 140737488351232 := by
  obtain ⟨xs, n, _, rfl, hl, hlen, hf⟩ := DataW.trod_struct Try.underlying40 h
  obtain ⟨e0, e1, e2, e3, e4, e5, e6, e7, rfl⟩ := list8 (hl.trans cells40)
  obtain ⟨y0, y1, y2, rfl⟩ := list3 (by simpa using hlen)
  have f0 := hf 0 _ rfl
  have f1 := hf 1 _ rfl
  have f2 := hf 2 _ rfl
  simp [cells27, cells9, cells22] at f0 f1 f2
  simp only [DataW.weights, Try.underlying40] at hw
  obtain ⟨r, c1, c2, c3, c4, c5, nn, e, hn, hr⟩ := open_newsCells f0 (weights_each (j := 0) rfl rfl hw)
  obtain ⟨sn, hsn, hs⟩ := open_str f1 (weights_each (j := 1) rfl rfl hw)
  obtain ⟨sv, hsv, _, _⟩ := DataW.trod_int Try.underlying22 f2
  simp only [List.cons.injEq, and_true] at e hsv
  obtain ⟨rfl, rfl, rfl, rfl, rfl, rfl⟩ := e
  subst hsn
  subst hsv
  exact ⟨r, _, _, _, _, _, nn, sn, sv, rfl, hn, nonneg_wf hr, hs⟩

set_option maxRecDepth 100000 in
theorem open_snap {rr : Reach} {b0 : Nat} {v : Value} {d : DataW H} {p : List MemPlace} (hv : Value.okWide Try.prog w rr b0 40 v) (h : DataW.Trod enc Try.prog w base spare held 40 v d p) (hw : ∀ n ∈ d.weights Try.prog 40, n ≤ reachBytes) :
    ∃ r c1 c2 c3 c4 c5 n sn sv, v = .agg #[.int .u64 r, c1, c2, c3, c4, c5, .string sn, .int .u64 sv] ∧ NewsAt 0 w.heap.size w c1 c2 c3 c4 c5 n ∧ 0 ≤ r ∧ sn.size ≤ 140737488351232 := by
  obtain ⟨cs, rfl, hsz⟩ := okWide_struct Try.underlying40 hv
  obtain ⟨fuel, hf⟩ := h
  obtain ⟨r, c1, c2, c3, c4, c5, n, sn, sv, e, h1, h2, h3⟩ := open_snapCells hf hw
  refine ⟨r, c1, c2, c3, c4, c5, n, sn, sv, ?_, h1, h2, h3⟩
  have : cs.toList = [.int .u64 r, c1, c2, c3, c4, c5, .string sn, .int .u64 sv] := by simpa [Value.cells] using e
  rw [← Array.toArray_toList (xs := cs), this]

set_option maxRecDepth 100000 in
theorem open_siteCells {fuel : Nat} {cs : List Value} {x : DataW H × List MemPlace} (h : DataW.trod enc Try.prog w base spare held fuel 42 cs = some x) (hw : ∀ n ∈ x.1.weights Try.prog 42, n ≤ reachBytes) :
    ∃ nm vp ve pl es, cs = [.string nm, vp, ve] ∧ StrsAt 0 w.heap.size w vp pl ∧ StrsAt 0 w.heap.size w ve es ∧ nm.size ≤ 140737488351232 := by
  obtain ⟨xs, n, _, rfl, hl, hlen, hf⟩ := DataW.trod_struct Try.underlying42 h
  obtain ⟨e0, e1, e2, rfl⟩ := list3 (hl.trans cells42)
  obtain ⟨y0, y1, y2, rfl⟩ := list3 (by simpa using hlen)
  have f0 := hf 0 _ rfl
  have f1 := hf 1 _ rfl
  have f2 := hf 2 _ rfl
  simp [cells9, cells23] at f0 f1 f2
  simp only [DataW.weights, Try.underlying42] at hw
  obtain ⟨nm, hnm, hs⟩ := open_str f0 (weights_each (j := 0) rfl rfl hw)
  obtain ⟨pl, h1⟩ := open_strsAt f1 (weights_each (j := 1) rfl rfl hw)
  obtain ⟨es, h2⟩ := open_strsAt f2 (weights_each (j := 2) rfl rfl hw)
  subst hnm
  exact ⟨nm, e1, e2, pl, es, rfl, h1, h2, hs⟩

set_option maxRecDepth 100000 in
theorem open_site {rr : Reach} {b0 : Nat} {v : Value} {d : DataW H} {p : List MemPlace} (hv : Value.okWide Try.prog w rr b0 42 v) (h : DataW.Trod enc Try.prog w base spare held 42 v d p) (hw : ∀ n ∈ d.weights Try.prog 42, n ≤ reachBytes) :
    ∃ nm vp ve pl es, v = .agg #[.string nm, vp, ve] ∧ StrsAt 0 w.heap.size w vp pl ∧ StrsAt 0 w.heap.size w ve es ∧ nm.size ≤ 140737488351232 := by
  obtain ⟨cs, rfl, hsz⟩ := okWide_struct Try.underlying42 hv
  obtain ⟨fuel, hf⟩ := h
  obtain ⟨nm, vp, ve, pl, es, e, h1, h2, h3⟩ := open_siteCells hf hw
  refine ⟨nm, vp, ve, pl, es, ?_, h1, h2, h3⟩
  have : cs.toList = [.string nm, vp, ve] := by simpa [Value.cells] using e
  rw [← Array.toArray_toList (xs := cs), this]

set_option maxRecDepth 100000 in
theorem open_news2 {rr : Reach} {b0 : Nat} {v : Value} {d : DataW H} {p : List MemPlace} (hv : Value.okWide Try.prog w rr b0 27 v) (h : DataW.Trod enc Try.prog w base spare held 27 v d p) (hw : ∀ n ∈ d.weights Try.prog 27, n ≤ reachBytes) :
    ∃ r c1 c2 c3 c4 c5 n, v = .agg #[.int .u64 r, c1, c2, c3, c4, c5] ∧ NewsAt 0 w.heap.size w c1 c2 c3 c4 c5 n ∧ 0 ≤ r := by
  obtain ⟨cs, rfl, hsz⟩ := okWide_struct Try.underlying27 hv
  obtain ⟨fuel, hf⟩ := h
  obtain ⟨r, c1, c2, c3, c4, c5, n, e, hn, hr⟩ := open_newsCells hf hw
  refine ⟨r, c1, c2, c3, c4, c5, n, ?_, hn, nonneg_wf hr⟩
  have : cs.toList = [.int .u64 r, c1, c2, c3, c4, c5] := by simpa [Value.cells] using e
  rw [← Array.toArray_toList (xs := cs), this]
end

end Go.Proofs.Qxb6601448a
