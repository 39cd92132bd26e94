/- How the checker's memory is laid: a table of cells; code that ends in a return. -/
import Derived.Test.Qxb6601448aChk
namespace Go.Proofs.Qxb6601448a
open Go.RowKit
set_option linter.unusedVariables false

/-- A cell of a box: its kind, its value, its length; of a slice of slices: the slices and their lengths. -/
structure Info where
  κ : Nat
  v : Value
  n : Nat
  es : List Value
  ls : List Nat

structure InfoOK (w : World) (a : Addr) (x : Info) : Prop where
  cell : w.cell? a = some x.v
  str : x.κ = 0 → ∃ s : ByteArray, x.v = .string s ∧ s.size = x.n
  sl : x.κ ≠ 0 → ∃ ao cap, x.v = .slice ao x.n cap
  small : x.n ≤ 140737488351232
  elem : x.κ = 1 → ∀ i, i < x.n → ∃ b off cap s, x.v = .slice (some ⟨b, off, none⟩) x.n cap ∧ w.cell? ⟨b, off + i, none⟩ = some (.string s)
  inner : x.κ = 3 → ∀ i, i < x.n → ∃ b off cap, x.v = .slice (some ⟨b, off, none⟩) x.n cap ∧ w.cell? ⟨b, off + i, none⟩ = some (x.es.getD i undef)
  innerSl : x.κ = 3 → ∀ i, i < x.n → ∃ ao cap, x.es.getD i undef = .slice ao (x.ls.getD i 0) cap ∧ x.ls.getD i 0 ≤ 140737488351232
  innerElem : x.κ = 3 → ∀ i i2, i < x.n → i2 < x.ls.getD i 0 → ∃ b off cap s, x.es.getD i undef = .slice (some ⟨b, off, none⟩) (x.ls.getD i 0) cap ∧ w.cell? ⟨b, off + i2, none⟩ = some (.string s)

theorem info_strs {lo hi : Nat} {w : World} {a : Addr} {v : Value} {ss : List ByteArray} (hc : w.cell? a = some v) (h : StrsAt lo hi w v ss) : InfoOK w a ⟨1, v, ss.length, [], []⟩ := by
  obtain ⟨ao, cap, hv⟩ := h.shape
  have hn : ss.length ≤ 140737488351232 := by
    obtain ⟨⟨ao', cap', _, _, h2, _⟩, _⟩ := h
    simp at h2
    omega
  refine ⟨hc, by simp, fun _ => ⟨ao, cap, hv⟩, hn, fun _ i hi => ?_, by simp, by simp, by simp⟩
  rcases h.open with ⟨ao', cap', hv', hs, _⟩ | ⟨b, off, cap', _, _, hv', _, _, _, hcell⟩
  · subst hs
    simp at hi
  · exact ⟨b, off, cap', _, hv', hcell i hi⟩

theorem info_words {lo hi : Nat} {w : World} {a : Addr} {v : Value} {zs : List Int} (hc : w.cell? a = some v) (h : WordsAt lo hi w v zs) : InfoOK w a ⟨2, v, zs.length, [], []⟩ := by
  obtain ⟨ao, cap, hv⟩ := h.shape
  have hn : zs.length ≤ 140737488351232 := by
    obtain ⟨⟨ao', cap', _, _, h2, _⟩, _⟩ := h
    simp at h2
    omega
  exact ⟨hc, by simp, fun _ => ⟨ao, cap, hv⟩, hn, by simp, by simp, by simp, by simp⟩

theorem info_string {w : World} {a : Addr} {s : ByteArray} (hc : w.cell? a = some (.string s)) (hs : s.size ≤ 140737488351232) : InfoOK w a ⟨0, .string s, s.size, [], []⟩ :=
  ⟨hc, fun _ => ⟨s, rfl, rfl⟩, by simp, hs, by simp, by simp, by simp, by simp⟩

theorem info_nest {lo hi : Nat} {w : World} {a : Addr} {v : Value} {vs : List Value} {sss : List (List ByteArray)} (hc : w.cell? a = some v) (h : RowAt 24 lo hi w v vs) (he : StrsEach lo hi w vs sss) : InfoOK w a ⟨3, v, vs.length, vs, sss.map List.length⟩ := by
  obtain ⟨ao, cap, hv⟩ := h.shape
  have hn : vs.length ≤ 140737488351232 := by
    obtain ⟨ao', cap', _, _, h2, _⟩ := h
    omega
  have hl : ∀ i, i < vs.length → (sss.map List.length).getD i 0 = (sss.getD i []).length := fun i hi => by
    have : i < sss.length := by rw [← he.1]; exact hi
    simp [List.getD, this]
  refine ⟨hc, by simp, fun _ => ⟨ao, cap, hv⟩, hn, by simp, fun _ i hi => ?_, fun _ i hi => ?_, fun _ i i2 hi hi2 => ?_⟩
  · rcases h.open with ⟨ao', cap', hv', hs, _⟩ | ⟨b, off, cap', _, _, hv', _, _, _, hcell⟩
    · subst hs
      simp at hi
    · exact ⟨b, off, cap', hv', hcell i hi⟩
  · have hi' : i < vs.length := hi
    show ∃ ao cap, vs.getD i undef = .slice ao ((sss.map List.length).getD i 0) cap ∧ _
    rw [hl i hi']
    have hs := he.2 i hi'
    obtain ⟨ao', cap', hv'⟩ := hs.shape
    refine ⟨ao', cap', hv', ?_⟩
    obtain ⟨⟨_, _, _, _, h2, _⟩, _⟩ := hs
    rw [List.length_map] at h2
    omega
  · have hi' : i < vs.length := hi
    have hi2' : i2 < (sss.map List.length).getD i 0 := hi2
    show ∃ b off cap s, vs.getD i undef = .slice (some ⟨b, off, none⟩) ((sss.map List.length).getD i 0) cap ∧ _
    rw [hl i hi'] at hi2' ⊢
    have hs := he.2 i hi'
    rcases hs.open with ⟨ao', cap', hv', hs', _⟩ | ⟨b, off, cap', _, _, hv', _, _, _, hcell⟩
    · rw [hs'] at hi2'
      simp at hi2'
    · exact ⟨b, off, cap', _, hv', hcell i2 hi2'⟩

abbrev Table := List ((Nat × Nat) × Info)
def kinds (T : Table) : Kinds := T.map fun p => (p.1, p.2.κ)
def noInfo : Info := ⟨9, undef, 0, [], []⟩
def infoAt (T : Table) (j o : Nat) : Info := (T.lookup (j, o)).getD noInfo
def envOf (T : Table) (B : Nat → Nat) : Env :=
  { B := B, V := fun j o => (infoAt T j o).v, L := fun j o => (infoAt T j o).n, E := fun j o i => (infoAt T j o).es.getD i undef, I := fun j o i => (infoAt T j o).ls.getD i 0 }

theorem kinds_lookup {T : Table} {j o κ : Nat} (h : (kinds T).lookup (j, o) = some κ) : ∃ x, T.lookup (j, o) = some x ∧ x.κ = κ ∧ ((j, o), x) ∈ T := by
  induction T with
  | nil => cases h
  | cons p l ih =>
    obtain ⟨k, x⟩ := p
    have h' : (List.lookup (j, o) ((k, x.κ) :: kinds l)) = some κ := h
    rw [List.lookup_cons] at h'
    rw [List.lookup_cons]
    split at h'
    · rename_i e
      cases h'
      have e' : (j, o) = k := by simpa using e
      subst e'
      exact ⟨x, by simp, rfl, List.mem_cons_self⟩
    · rename_i e
      obtain ⟨y, h1, h2, h3⟩ := ih h'
      exact ⟨y, h1, h2, List.mem_cons_of_mem _ h3⟩

theorem memOK_of {T : Table} {B : Nat → Nat} {w : World} (h : ∀ p ∈ T, InfoOK w ⟨B p.1.1, p.1.2, none⟩ p.2) : MemOK (kinds T) w (envOf T B) := by
  have key : ∀ j o κ, (kinds T).lookup (j, o) = some κ → InfoOK w ⟨B j, o, none⟩ (infoAt T j o) ∧ (infoAt T j o).κ = κ := fun j o κ hk => by
    obtain ⟨x, h1, h2, h3⟩ := kinds_lookup hk
    have e : infoAt T j o = x := by simp [infoAt, h1]
    rw [e]
    exact ⟨h _ h3, h2⟩
  exact { cell := fun j o κ hk => (key j o κ hk).1.cell
          str := fun j o hk => (key j o 0 hk).1.str (key j o 0 hk).2
          sl := fun j o κ hk hne => (key j o κ hk).1.sl (by rw [(key j o κ hk).2]; exact hne)
          small := fun j o κ hk => (key j o κ hk).1.small
          elem := fun j o i hk hi => (key j o 1 hk).1.elem (key j o 1 hk).2 i hi
          inner := fun j o i hk hi => (key j o 3 hk).1.inner (key j o 3 hk).2 i hi
          innerSl := fun j o i hk hi => (key j o 3 hk).1.innerSl (key j o 3 hk).2 i hi
          innerElem := fun j o i i2 hk hi hi2 => (key j o 3 hk).1.innerElem (key j o 3 hk).2 i i2 hi hi2 }

/-- The code returns. -/
def OkR (w : World) (M : Env) (N R : Nat) (bx : List (Nat × Nat)) (z : Nat) (c : Code) (K : Nat → Nat) : Prop :=
  ∀ (a : Act) (Q : Exit → Act → World → Prop), At M K N bx z [] a → (∀ a', Done N R a' → Q .ret a' w) → c.wp Try.prog Q a w

section
variable {w : World} {M : Env} {K : Nat → Nat} {N R z : Nat} {bx : List (Nat × Nat)}
theorem OkR.seq {c d : Code} (h1 : Ok w M N R bx z [] K c) (h2 : OkR w M N R bx z d K) : OkR w M N R bx z (.seq c d) K := fun a Q ha hr =>
  wp_seq (h1 a _ ha (fun a' ha' => h2 a' Q ha' hr) hr)

theorem OkR.last {i ty : Nat} {pos : String} {aft : Array Edge} {b : Bool} (hR : R < N) : OkR w M N R bx z (.seq (.region i #[⟨some R, .assign (.const (.bool b)), ty, pos, aft, none⟩] false) .ret) K := fun a Q ha hr =>
  wp_seq (wp_region_lit (l := [_]) (x_one rfl (x_assign rfl) (wpList_nil (wp_ret (hr _ ⟨⟨b, eval_put_same (by rw [ha.size]; exact hR)⟩, by rw [size_put]; exact ha.size, by rw [defers_put]; exact ha.defers⟩)))))
end

theorem known_none (M : Env) (K : Nat → Nat) : KnownOK M K ⟨[], []⟩ := ⟨fun _ _ _ h => by simp at h, fun _ _ _ _ h => by simp at h⟩

/-- A struct parameter's box. -/
theorem x_box27 {o : Oper} {x : Operand} {a : Act} {w : World} {ops : Array Oper} {Q : Exit → Act → World → Prop} {rest : List Oper} {c0 c1 c2 c3 c4 c5 : Value} (hg : o.guard = none) (h : o.op = .box 27 x) (hx : a.eval x = .agg #[c0, c1, c2, c3, c4, c5])
    (hn : wpList Try.prog ops Q rest (a.put o.dst (.pointer (some ⟨w.heap.size, 0, none⟩))) (w.alloc (.cells #[c0, c1, c2, c3, c4, c5] 27))) : wpList Try.prog ops Q (o :: rest) a w := by
  refine wpList_plain hg fun K' hK' => ?_
  have hrun : ∀ ρ : Operand → Value, ρ x = .agg #[c0, c1, c2, c3, c4, c5] → (execOp ρ o).run Try.prog w = .ok (.value (.pointer (some ⟨w.heap.size, 0, none⟩))) (w.alloc (.cells #[c0, c1, c2, c3, c4, c5] 27)) := fun ρ hρ => by
    simp [execOp, h, hρ, go_sem]
  unfold Oper.wp
  rw [hrun _ hx]
  exact hK' _ _ hn

/-- A struct parameter's box. -/
theorem x_box40 {o : Oper} {x : Operand} {a : Act} {w : World} {ops : Array Oper} {Q : Exit → Act → World → Prop} {rest : List Oper} {c0 c1 c2 c3 c4 c5 c6 c7 : Value} (hg : o.guard = none) (h : o.op = .box 40 x) (hx : a.eval x = .agg #[c0, c1, c2, c3, c4, c5, c6, c7])
    (hn : wpList Try.prog ops Q rest (a.put o.dst (.pointer (some ⟨w.heap.size, 0, none⟩))) (w.alloc (.cells #[c0, c1, c2, c3, c4, c5, c6, c7] 40))) : wpList Try.prog ops Q (o :: rest) a w := by
  refine wpList_plain hg fun K' hK' => ?_
  have hrun : ∀ ρ : Operand → Value, ρ x = .agg #[c0, c1, c2, c3, c4, c5, c6, c7] → (execOp ρ o).run Try.prog w = .ok (.value (.pointer (some ⟨w.heap.size, 0, none⟩))) (w.alloc (.cells #[c0, c1, c2, c3, c4, c5, c6, c7] 40)) := fun ρ hρ => by
    simp [execOp, h, hρ, go_sem]
  unfold Oper.wp
  rw [hrun _ hx]
  exact hK' _ _ hn

/-- A struct parameter's box. -/
theorem x_box42 {o : Oper} {x : Operand} {a : Act} {w : World} {ops : Array Oper} {Q : Exit → Act → World → Prop} {rest : List Oper} {c0 c1 c2 : Value} (hg : o.guard = none) (h : o.op = .box 42 x) (hx : a.eval x = .agg #[c0, c1, c2])
    (hn : wpList Try.prog ops Q rest (a.put o.dst (.pointer (some ⟨w.heap.size, 0, none⟩))) (w.alloc (.cells #[c0, c1, c2] 42))) : wpList Try.prog ops Q (o :: rest) a w := by
  refine wpList_plain hg fun K' hK' => ?_
  have hrun : ∀ ρ : Operand → Value, ρ x = .agg #[c0, c1, c2] → (execOp ρ o).run Try.prog w = .ok (.value (.pointer (some ⟨w.heap.size, 0, none⟩))) (w.alloc (.cells #[c0, c1, c2] 42)) := fun ρ hρ => by
    simp [execOp, h, hρ, go_sem]
  unfold Oper.wp
  rw [hrun _ hx]
  exact hK' _ _ hn


end Go.Proofs.Qxb6601448a
