/- The law's arguments, opened: from a reading as data to what lies in memory. -/
import Derived.Test.Qxb6601448aCopy
import Derived.Deep.Strs
import Derived.SizedLaws
import Derived.WideShapes
namespace Go.Proofs.Qxb6601448a
open Go.RowKit Go.ChangeShapes Go.WideShapes
set_option linter.unusedVariables false

theorem cells9 : Try.prog.cellsOf 9 = 1 := by kernel_rfl
theorem cells22 : Try.prog.cellsOf 22 = 1 := by kernel_rfl
theorem cells23 : Try.prog.cellsOf 23 = 1 := by kernel_rfl
theorem cells24 : Try.prog.cellsOf 24 = 1 := by kernel_rfl
theorem cells25 : Try.prog.cellsOf 25 = 1 := by kernel_rfl
theorem cells27 : Try.prog.cellsOf 27 = 6 := by kernel_rfl
theorem bytes9 : Try.prog.bytesOf 9 = 16 := by kernel_rfl
theorem bytes22 : Try.prog.bytesOf 22 = 8 := by kernel_rfl
theorem bytes23 : Try.prog.bytesOf 23 = 24 := by kernel_rfl

theorem addr_at {w : World} {a : Addr} {n : Nat} {V : Nat → Value} (h : ∀ i, i < n → w.cell? (a.add i) = some (V i)) (hp : 0 < n) : ∃ b off, a = ⟨b, off, none⟩ ∧ ∀ i, i < n → w.cell? ⟨b, off + i, none⟩ = some (V i) := by
  obtain ⟨b, off, spot⟩ := a
  have hspot : spot = none := by simpa [Addr.add] using World.cell?_spot (h 0 hp)
  subst hspot
  exact ⟨b, off, rfl, fun j hj => by rw [← Go.WideShapes.add_plain]; exact h j hj⟩

/-- A slice of one-cell elements. -/
theorem rowAt_mk {sz n cap : Nat} {w : World} {a : Addr} {xs : List Value} (hn : xs.length = n) (hc : n ≤ cap) (hb : n * sz ≤ 140737488351232) (h : ∀ i, i < n → w.cell? (a.add i) = some (xs.getD i undef)) : RowAt sz 0 w.heap.size w (.slice (some a) n cap) xs := by
  subst hn
  refine ⟨some a, cap, rfl, hc, hb, ?_⟩
  by_cases hx : xs = []
  · exact Or.inr (Or.inl ⟨hx, a, rfl⟩)
  · obtain ⟨b, off, rfl, hcell⟩ := addr_at h (List.length_pos_iff.2 hx)
    exact Or.inr (Or.inr ⟨b, off, rfl, Nat.zero_le _, by have := cell_lt (hcell 0 (List.length_pos_iff.2 hx)); simpa using this, hx, hcell⟩)

theorem rowAt_nil (sz : Nat) (w : World) : RowAt sz 0 w.heap.size w (.slice none 0 0) [] := ⟨none, 0, rfl, Nat.le_refl _, by simp, Or.inl ⟨rfl, rfl, rfl⟩⟩

section
variable {H : Type} {enc : TypeId × Value → H} {w : World} {base : Nat} {spare : Nat → Bool} {held : Bool}

theorem open_str {fuel : Nat} {v : Value} {x : DataW H × List MemPlace} (h : DataW.trod enc Try.prog w base spare held fuel 9 [v] = some x) (hw : ∀ n ∈ x.1.weights Try.prog 9, n ≤ reachBytes) : ∃ s : ByteArray, v = .string s ∧ s.size ≤ 140737488351232 := by
  obtain ⟨s, h1, rfl, h3⟩ := DataW.trod_string Try.underlying9 h
  obtain rfl : v = .string s := by simpa using h1
  have := hw s.data.toList.length (by simp [DataW.weights])
  exact ⟨s, rfl, by simpa [reachBytes] using this⟩

theorem open_strsAt {fuel : Nat} {v : Value} {x : DataW H × List MemPlace} (h : DataW.trod enc Try.prog w base spare held fuel 23 [v] = some x) (hw : ∀ n ∈ x.1.weights Try.prog 23, n ≤ reachBytes) : ∃ ss, StrsAt 0 w.heap.size w v ss := by
  rcases Deep.open_strs Try.underlying23 Try.underlying9 cells9 h with ⟨hv, _⟩ | ⟨a, len, cap, m, Sx, hv, _, hl, hm, hmm, rfl, hcell⟩
  · obtain rfl : v = .slice none 0 0 := by simpa using hv
    exact ⟨[], rowAt_nil _ _, by simp⟩
  · obtain rfl : v = .slice (some a) len cap := by simpa using hv
    have hlm : len ≤ m := by rw [hmm]; split <;> omega
    have hb := hw ((len + (m - len)) * 16) (by simp [DataW.weights, Try.underlying23, bytes9])
    refine ⟨(List.range len).map Sx, ?_, ?_⟩
    · refine rowAt_mk (by simp) hl (by simp [reachBytes] at hb; omega) (fun i hi => ?_)
      rw [(hcell i (by omega)).1]
      simp [List.getD, hi]
    · intro s hs
      obtain ⟨i, hi, rfl⟩ := List.mem_map.1 hs
      exact (hcell i (by have := List.mem_range.1 hi; omega)).2

theorem open_wordsAt {fuel : Nat} {v : Value} {x : DataW H × List MemPlace} (h : DataW.trod enc Try.prog w base spare held fuel 24 [v] = some x) (hw : ∀ n ∈ x.1.weights Try.prog 24, n ≤ reachBytes) : ∃ zs, WordsAt 0 w.heap.size w v zs := by
  rcases open_ints Try.underlying24 Try.underlying22 cells22 h with ⟨hv, _⟩ | ⟨a, len, cap, zs, hv, _, hl, hm, hz, rfl, hcell, hwz⟩
  · obtain rfl : v = .slice none 0 0 := by simpa using hv
    exact ⟨[], rowAt_nil _ _, by simp⟩
  · obtain rfl : v = .slice (some a) len cap := by simpa using hv
    have hlm : len ≤ zs.length := by rw [hz]; split <;> omega
    have hb := hw (((zs.take len).length + (zs.drop len).length) * 8) (by simp [DataW.weights, Try.underlying24, bytes22, lits])
    refine ⟨zs.take len, ?_, fun z hz => hwz z (List.mem_of_mem_take hz)⟩
    refine rowAt_mk (by simp; omega) hl (by simp [reachBytes] at hb; omega) (fun i hi => ?_)
    rw [hcell i (by omega)]
    have h1 : i < zs.length := by omega
    simp [List.getD, h1, hi]

theorem open_nestAt {fuel : Nat} {v : Value} {x : DataW H × List MemPlace} (h : DataW.trod enc Try.prog w base spare held fuel 25 [v] = some x) (hw : ∀ n ∈ x.1.weights Try.prog 25, n ≤ reachBytes) : ∃ sss, NestAt 0 w.heap.size w v sss := by
  rcases Deep.open_slice1 Try.underlying25 cells23 h with ⟨hv, _⟩ | ⟨a, len, cap, m, n, V, D, Pl, hv, _, hl, hm, hmm, rfl, hcell⟩
  · obtain rfl : v = .slice none 0 0 := by simpa using hv
    exact ⟨[], [], rowAt_nil _ _, rfl, by simp⟩
  · obtain rfl : v = .slice (some a) len cap := by simpa using hv
    have hlm : len ≤ m := by rw [hmm]; split <;> omega
    have hb := hw ((len + (m - len)) * 24) (by simp [DataW.weights, Try.underlying25, bytes23])
    have each : ∀ i, i < len → ∃ ss, StrsAt 0 w.heap.size w (V i) ss := fun i hi => by
      refine open_strsAt (hcell i (by omega)).2 (fun k hk => hw k ?_)
      have : ∀ (l : List (DataW H)) (d : DataW H), d ∈ l → ∀ k ∈ d.weights Try.prog 23, k ∈ DataW.weightsAll Try.prog 23 l := by
        intro l
        induction l with
        | nil => intro d hd; cases hd
        | cons e l ih =>
          intro d hd k hk
          rw [DataW.weightsAll]
          rcases List.mem_cons.1 hd with rfl | hd
          · exact List.mem_append_left _ hk
          · exact List.mem_append_right _ (ih d hd k hk)
      simp only [DataW.weights, Try.underlying25]
      exact List.mem_cons_of_mem _ (List.mem_append_left _ (this _ (D i) (List.mem_map.2 ⟨i, List.mem_range.2 hi, rfl⟩) k hk))
    obtain ⟨S, hS⟩ := Deep.choose_lt each
    refine ⟨(List.range len).map S, (List.range len).map V, ?_, by simp, fun i hi => ?_⟩
    · refine rowAt_mk (by simp) hl (by simp [reachBytes] at hb; omega) (fun i hi => ?_)
      rw [(hcell i (by omega)).1]
      simp [List.getD, hi]
    · have hi' : i < len := by simpa using hi
      simpa [List.getD, hi'] using hS i hi'

theorem list6 {α : Type} {l : List α} (h : l.length = 6) : ∃ a b c d e f, l = [a, b, c, d, e, f] := by
  match l, h with
  | [a, b, c, d, e, f], _ => exact ⟨a, b, c, d, e, f, rfl⟩

theorem weights_each {ts : List TypeId} {ds : List (DataW H)} {j : Nat} {t : TypeId} {d : DataW H} (ht : ts[j]? = some t) (hd : ds[j]? = some d) (h : ∀ n ∈ DataW.weightsEach Try.prog ts ds, n ≤ reachBytes) : ∀ n ∈ d.weights Try.prog t, n ≤ reachBytes :=
  fun n hn => h n (DataW.weights_mem_each ht hd n hn)

theorem open_newsCells {fuel : Nat} {cs : List Value} {x : DataW H × List MemPlace} (h : DataW.trod enc Try.prog w base spare held fuel 27 cs = some x) (hw : ∀ n ∈ x.1.weights Try.prog 27, n ≤ reachBytes) :
    ∃ r c1 c2 c3 c4 c5 n, cs = [.int .u64 r, c1, c2, c3, c4, c5] ∧ NewsAt 0 w.heap.size w c1 c2 c3 c4 c5 n ∧ (Lit.int .u64 r).wf = true := by
  obtain ⟨xs, n, _, rfl, hl, hlen, hf⟩ := DataW.trod_struct Try.underlying27 h
  obtain ⟨c0, c1, c2, c3, c4, c5, rfl⟩ := list6 (hl.trans cells27)
  obtain ⟨y0, y1, y2, y3, y4, y5, rfl⟩ := list6 (by simpa using hlen)
  have f0 := hf 0 _ rfl
  have f1 := hf 1 _ rfl
  have f2 := hf 2 _ rfl
  have f3 := hf 3 _ rfl
  have f4 := hf 4 _ rfl
  have f5 := hf 5 _ rfl
  simp [cells22, cells23, cells24, cells25] at f0 f1 f2 f3 f4 f5
  simp only [DataW.weights, Try.underlying27] at hw
  obtain ⟨r, e0, _, hr⟩ := DataW.trod_int Try.underlying22 f0
  obtain rfl : c0 = .int .u64 r := by simpa using e0
  obtain ⟨mn, h1⟩ := open_strsAt f1 (weights_each (j := 1) rfl rfl hw)
  obtain ⟨ms, h2⟩ := open_wordsAt f2 (weights_each (j := 2) rfl rfl hw)
  obtain ⟨mp, h3⟩ := open_nestAt f3 (weights_each (j := 3) rfl rfl hw)
  obtain ⟨fn, h4⟩ := open_strsAt f4 (weights_each (j := 4) rfl rfl hw)
  obtain ⟨fv, h5⟩ := open_wordsAt f5 (weights_each (j := 5) rfl rfl hw)
  exact ⟨r, c1, c2, c3, c4, c5, ⟨r, mn, ms, mp, fn, fv⟩, rfl, ⟨h1, h2, h3, h4, h5⟩, hr⟩

set_option maxRecDepth 100000 in
theorem open_news {rr : Reach} {b0 : Nat} {v : Value} {d : DataW H} {p : List MemPlace} (hv : Value.okWide Try.prog w rr b0 27 v) (h : DataW.Trod enc Try.prog w base spare held 27 v d p) (hw : ∀ n ∈ d.weights Try.prog 27, n ≤ reachBytes) :
    ∃ r c1 c2 c3 c4 c5 n, v = .agg #[.int .u64 r, c1, c2, c3, c4, c5] ∧ NewsAt 0 w.heap.size w c1 c2 c3 c4 c5 n := by
  obtain ⟨cs, rfl, hsz⟩ := okWide_struct Try.underlying27 hv
  obtain ⟨fuel, hf⟩ := h
  obtain ⟨r, c1, c2, c3, c4, c5, n, e, hn, _⟩ := open_newsCells hf hw
  refine ⟨r, c1, c2, c3, c4, c5, n, ?_, hn⟩
  have : cs.toList = [.int .u64 r, c1, c2, c3, c4, c5] := by simpa [Value.cells] using e
  rw [← Array.toArray_toList (xs := cs), this]

end

end Go.Proofs.Qxb6601448a
