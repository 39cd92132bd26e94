/- A small checker for code that only reads, proved sound: what the slots hold is followed by tags; regions are run by the kernel. -/
import Derived.Test.Qxb6601448aAct
namespace Go.Proofs.Qxb6601448a
open Go.RowKit
set_option linter.unusedVariables false

/-- What the cells of the boxes hold, and what those slices hold. -/
structure Env where
  B : Nat → Nat
  V : Nat → Nat → Value
  L : Nat → Nat → Nat
  E : Nat → Nat → Nat → Value
  I : Nat → Nat → Nat → Nat

/-- The kinds of the boxes' cells: 0 a string, 1 a slice of strings, 2 a slice of words, 3 a slice of slices of strings. -/
abbrev Kinds := List ((Nat × Nat) × Nat)

structure MemOK (Γ : Kinds) (w : World) (M : Env) : Prop where
  cell : ∀ j o κ, Γ.lookup (j, o) = some κ → w.cell? ⟨M.B j, o, none⟩ = some (M.V j o)
  str : ∀ j o, Γ.lookup (j, o) = some 0 → ∃ s : ByteArray, M.V j o = .string s ∧ s.size = M.L j o
  sl : ∀ j o κ, Γ.lookup (j, o) = some κ → κ ≠ 0 → ∃ ao cap, M.V j o = .slice ao (M.L j o) cap
  small : ∀ j o κ, Γ.lookup (j, o) = some κ → M.L j o ≤ 140737488351232
  elem : ∀ j o i, Γ.lookup (j, o) = some 1 → i < M.L j o → ∃ b off cap s, M.V j o = .slice (some ⟨b, off, none⟩) (M.L j o) cap ∧ w.cell? ⟨b, off + i, none⟩ = some (.string s)
  inner : ∀ j o i, Γ.lookup (j, o) = some 3 → i < M.L j o → ∃ b off cap, M.V j o = .slice (some ⟨b, off, none⟩) (M.L j o) cap ∧ w.cell? ⟨b, off + i, none⟩ = some (M.E j o i)
  innerSl : ∀ j o i, Γ.lookup (j, o) = some 3 → i < M.L j o → ∃ ao cap, M.E j o i = .slice ao (M.I j o i) cap ∧ M.I j o i ≤ 140737488351232
  innerElem : ∀ j o i i2, Γ.lookup (j, o) = some 3 → i < M.L j o → i2 < M.I j o i → ∃ b off cap s, M.E j o i = .slice (some ⟨b, off, none⟩) (M.I j o i) cap ∧ w.cell? ⟨b, off + i2, none⟩ = some (.string s)

/-- What a tag says of a value. -/
def Mean (M : Env) (K : Nat → Nat) (t : List Nat) (v : Value) : Prop :=
  match t with
  | [1] => ∃ z, v = .int .i64 z
  | [2] => ∃ b, v = .bool b
  | [3, j, o] => v = .pointer (some ⟨M.B j, o, none⟩)
  | [4, j, o] => v = M.V j o
  | [5, j, o] => v = .int .i64 (M.L j o)
  | [6, c] => v = .int .i64 (K c)
  | [7, j, o, c] => ∃ b off cap, M.V j o = .slice (some ⟨b, off, none⟩) (M.L j o) cap ∧ v = .pointer (some ⟨b, off + K c, none⟩)
  | [8, j, o, c] => v = M.E j o (K c)
  | [9, j, o, c] => v = .int .i64 (M.I j o (K c))
  | [10, j, o, c, d] => ∃ b off cap, M.E j o (K c) = .slice (some ⟨b, off, none⟩) (M.I j o (K c)) cap ∧ v = .pointer (some ⟨b, off + K d, none⟩)
  | [11, c, j, o] => v = .bool (decide (K c < M.L j o))
  | [12, d, j, o, c] => v = .bool (decide (K d < M.I j o (K c)))
  | [13] => ∃ s, v = .string s
  | _ => True

/-- Is it an int? -/
def isInt : List Nat → Bool
  | [1] => true
  | [5, _, _] => true
  | [6, _] => true
  | [9, _, _, _] => true
  | _ => false

theorem Mean.int {M : Env} {K : Nat → Nat} {t : List Nat} {v : Value} (h : Mean M K t v) (ht : isInt t = true) : ∃ z, v = .int .i64 z := by
  unfold isInt at ht
  split at ht
  · exact h
  · exact ⟨_, h⟩
  · exact ⟨_, h⟩
  · exact ⟨_, h⟩
  · cases ht

abbrev Tags := Nat → List Nat

def tagOf (σ : Tags) : Operand → List Nat
  | .tmp t => σ t
  | .const (.int .i64 _) => [1]
  | .const (.bool _) => [2]
  | _ => []

/-- The counters known to be in their bounds: (c, j, o): below the length of cell (j, o); (d, j, o, c): below the length of its c-th slice. -/
structure Known where
  p : List (Nat × Nat × Nat)
  q : List (Nat × Nat × Nat × Nat)

structure KnownOK (M : Env) (K : Nat → Nat) (Φ : Known) : Prop where
  p : ∀ c j o, Φ.p.contains (c, j, o) = true → K c < M.L j o
  q : ∀ d j o c, Φ.q.contains (d, j, o, c) = true → K d < M.I j o (K c)

def sliceOf (κ t : Nat) : Bool := (κ == 1 && t == 23) || (κ == 2 && t == 24) || (κ == 3 && t == 25)

/-- What an operation yields, by tags. -/
def tagOp (Γ : Kinds) (Φ : Known) (σ : Tags) : Op → Option (List Nat)
  | .move x => some (tagOf σ x)
  | .assign x => some (tagOf σ x)
  | .fieldAddr t x f => match tagOf σ x, offs t f with
    | [3, j, o], some d => some [3, j, o + d]
    | _, _ => none
  | .load t x => if one t then (match tagOf σ x with
    | [3, j, o] => if (Γ.lookup (j, o)).isSome then some [4, j, o] else none
    | [7, j, o, c] => if Φ.p.contains (c, j, o) then (if Γ.lookup (j, o) = some 1 then some [13] else if Γ.lookup (j, o) = some 3 then some [8, j, o, c] else none) else none
    | [10, j, o, c, d] => if Φ.p.contains (c, j, o) && Φ.q.contains (d, j, o, c) && (Γ.lookup (j, o) == some 3) then some [13] else none
    | _ => none) else none
  | .binOp .gtr 3 x y _ => if isInt (tagOf σ x) && isInt (tagOf σ y) then some [2] else none
  | .binOp .add 3 x y _ => if isInt (tagOf σ x) && isInt (tagOf σ y) then some [1] else none
  | .binOp .lss 3 x y _ => match tagOf σ x, tagOf σ y with
    | [6, c], [5, j, o] => some [11, c, j, o]
    | [6, d], [9, j, o, c] => some [12, d, j, o, c]
    | _, _ => none
  | .indexAddr t x y => match tagOf σ x, tagOf σ y with
    | [4, j, o], [6, c] => if Φ.p.contains (c, j, o) && ((Γ.lookup (j, o) == some 1 && t == 23) || (Γ.lookup (j, o) == some 3 && t == 25)) then some [7, j, o, c] else none
    | [8, j, o, c], [6, d] => if Φ.p.contains (c, j, o) && Φ.q.contains (d, j, o, c) && (Γ.lookup (j, o) == some 3 && t == 23) then some [10, j, o, c, d] else none
    | _, _ => none
  | .call c => match c.callee, c.args.toList, c.argTypes.toList with
    | .builtin .len, [x], [t] => (match tagOf σ x with
      | [4, j, o] => (match Γ.lookup (j, o) with
        | some κ => if κ == 0 && t == 9 then some [5, j, o] else if sliceOf κ t then some [5, j, o] else none
        | none => none)
      | [8, j, o, c] => if Φ.p.contains (c, j, o) && (Γ.lookup (j, o) == some 3 && t == 23) then some [9, j, o, c] else none
      | [13] => if t == 9 then some [1] else none
      | _ => none)
    | _, _, _ => none
  | _ => none

/-- The tags of a frame, and of each slot that is read. -/
def Tagged (M : Env) (K : Nat → Nat) (σ : Tags) (a : Act) : Prop := ∀ t, Mean M K (σ t) (a.eval (.tmp t))

theorem mean_of {M : Env} {K : Nat → Nat} {σ : Tags} {a : Act} (h : Tagged M K σ a) (x : Operand) : Mean M K (tagOf σ x) (a.eval x) := by
  unfold tagOf
  split
  · exact h _
  · exact ⟨_, rfl⟩
  · exact ⟨_, rfl⟩
  · trivial

theorem len_cell {Γ : Kinds} {w : World} {M : Env} (hM : MemOK Γ w M) {j o κ t : Nat} (hκ : Γ.lookup (j, o) = some κ) (ht : (κ == 0 && t == 9) = true ∨ sliceOf κ t = true) {a : Act} {op : Oper} {x : Operand} (hx : a.eval x = M.V j o)
    (h : op.op = .call { callee := .builtin .len, args := #[x], argTypes := #[t] }) : (execOp a.eval op).run Try.prog w = .ok (.value (.int .i64 (M.L j o))) w := by
  rcases ht with ht | ht
  · simp at ht
    obtain ⟨rfl, rfl⟩ := ht
    obtain ⟨s, hs, hl⟩ := hM.str j o hκ
    have := x_len_string (w := w) h (hx.trans hs)
    rw [this, hl]
  · have h3 : κ ≠ 0 ∧ (t = 23 ∨ t = 24 ∨ t = 25) := by
      simp [sliceOf] at ht
      omega
    obtain ⟨ao, cap, hv⟩ := hM.sl j o κ hκ h3.1
    exact x_len_slice h h3.2 (hx.trans hv)

theorem tagOp_sound {Γ : Kinds} {w : World} {M : Env} {K : Nat → Nat} {Φ : Known} (hM : MemOK Γ w M) (hK : KnownOK M K Φ) {σ : Tags} {a : Act} (h : Tagged M K σ a) (o : Oper) (av : List Nat) (ho : tagOp Γ Φ σ o.op = some av) :
    ∃ v, (execOp a.eval o).run Try.prog w = .ok (.value v) w ∧ Mean M K av v := by
  generalize hop : o.op = op at ho
  unfold tagOp at ho
  split at ho
  · cases ho
    exact ⟨_, x_move hop, mean_of h _⟩
  · cases ho
    exact ⟨_, x_assign hop, mean_of h _⟩
  · rename_i t x f
    have hm := mean_of h x
    split at ho
    · rename_i j q d e1 e2
      rw [e1] at hm
      cases ho
      exact ⟨_, x_field hop e2 hm, rfl⟩
    · cases ho
  · rename_i t x
    have hm := mean_of h x
    split at ho
    · rename_i ht
      split at ho
      · rename_i j q e1
        rw [e1] at hm
        split at ho
        · rename_i hs
          obtain ⟨κ, hκ⟩ := Option.isSome_iff_exists.1 hs
          cases ho
          exact ⟨_, x_load hop ht hm (hM.cell j q κ hκ), rfl⟩
        · cases ho
      · rename_i j q c e1
        rw [e1] at hm
        obtain ⟨b, off, cap, hv, hp⟩ := hm
        split at ho
        · rename_i hc
          have hlt := hK.p c j q hc
          split at ho
          · rename_i h1
            obtain ⟨b', off', cap', s, hv', hcell⟩ := hM.elem j q (K c) h1 hlt
            rw [hv] at hv'
            cases hv'
            cases ho
            exact ⟨_, x_load hop ht hp hcell, _, rfl⟩
          · split at ho
            · rename_i h3
              obtain ⟨b', off', cap', hv', hcell⟩ := hM.inner j q (K c) h3 hlt
              rw [hv] at hv'
              cases hv'
              cases ho
              exact ⟨_, x_load hop ht hp hcell, rfl⟩
            · cases ho
        · cases ho
      · rename_i j q c d e1
        rw [e1] at hm
        obtain ⟨b, off, cap, hv, hp⟩ := hm
        split at ho
        · rename_i hc
          simp only [Bool.and_eq_true, beq_iff_eq] at hc
          obtain ⟨⟨hc1, hc2⟩, hc3⟩ := hc
          obtain ⟨b', off', cap', s, hv', hcell⟩ := hM.innerElem j q (K c) (K d) hc3 (hK.p c j q hc1) (hK.q d j q c hc2)
          rw [hv] at hv'
          cases hv'
          cases ho
          exact ⟨_, x_load hop ht hp hcell, _, rfl⟩
        · cases ho
      · cases ho
    · cases ho
  · rename_i x y u
    split at ho
    · rename_i hi
      simp only [Bool.and_eq_true] at hi
      obtain ⟨m, hm⟩ := (mean_of h x).int hi.1
      obtain ⟨n, hn⟩ := (mean_of h y).int hi.2
      obtain ⟨b, hb⟩ := x_gtr (w := w) hop hm hn
      cases ho
      exact ⟨_, hb, _, rfl⟩
    · cases ho
  · rename_i x y u
    split at ho
    · rename_i hi
      simp only [Bool.and_eq_true] at hi
      obtain ⟨m, hm⟩ := (mean_of h x).int hi.1
      obtain ⟨n, hn⟩ := (mean_of h y).int hi.2
      cases ho
      exact ⟨_, x_add hop hm hn, _, rfl⟩
    · cases ho
  · rename_i x y u
    have hx := mean_of h x
    have hy := mean_of h y
    split at ho
    · rename_i c j q e1 e2
      rw [e1] at hx
      rw [e2] at hy
      cases ho
      refine ⟨_, x_lss hop hx hy, ?_⟩
      show Value.bool _ = Value.bool _
      congr 1
      simp
    · rename_i d j q c e1 e2
      rw [e1] at hx
      rw [e2] at hy
      cases ho
      refine ⟨_, x_lss hop hx hy, ?_⟩
      show Value.bool _ = Value.bool _
      congr 1
      simp
    · cases ho
  · rename_i t x y
    have hx := mean_of h x
    have hy := mean_of h y
    split at ho
    · rename_i j q c e1 e2
      rw [e1] at hx
      rw [e2] at hy
      split at ho
      · rename_i hc
        simp only [Bool.and_eq_true, Bool.or_eq_true, beq_iff_eq] at hc
        obtain ⟨hc1, hc2⟩ := hc
        have hlt := hK.p c j q hc1
        cases ho
        rcases hc2 with ⟨h1, rfl⟩ | ⟨h3, rfl⟩
        · obtain ⟨b, off, cap, s, hv, _⟩ := hM.elem j q (K c) h1 hlt
          exact ⟨_, x_index hop (Or.inl rfl) (hx.trans hv) hy hlt, b, off, cap, hv, rfl⟩
        · obtain ⟨b, off, cap, hv, _⟩ := hM.inner j q (K c) h3 hlt
          exact ⟨_, x_index hop (Or.inr rfl) (hx.trans hv) hy hlt, b, off, cap, hv, rfl⟩
      · cases ho
    · rename_i j q c d e1 e2
      rw [e1] at hx
      rw [e2] at hy
      split at ho
      · rename_i hc
        simp only [Bool.and_eq_true, beq_iff_eq] at hc
        obtain ⟨⟨hc1, hc2⟩, hc3, rfl⟩ := hc
        obtain ⟨b, off, cap, s, hv, _⟩ := hM.innerElem j q (K c) (K d) hc3 (hK.p c j q hc1) (hK.q d j q c hc2)
        cases ho
        exact ⟨_, x_index hop (Or.inl rfl) (hx.trans hv) hy (hK.q d j q c hc2), b, off, cap, hv, rfl⟩
      · cases ho
    · cases ho
  · rename_i c
    split at ho
    · rename_i x t hcal hargs hty
      have hop' : o.op = .call { callee := .builtin .len, args := #[x], argTypes := #[t] } := by
        rw [hop]
        obtain ⟨ce, ar, at'⟩ := c
        simp only at hcal hargs hty
        subst hcal
        obtain rfl : ar = #[x] := by rw [← hargs]
        obtain rfl : at' = #[t] := by rw [← hty]
        rfl
      have hm := mean_of h x
      split at ho
      · rename_i j q e1
        rw [e1] at hm
        split at ho
        · rename_i κ hκ
          split at ho
          · rename_i h1
            cases ho
            exact ⟨_, len_cell hM hκ (Or.inl h1) hm hop', rfl⟩
          · split at ho
            · rename_i h1
              cases ho
              exact ⟨_, len_cell hM hκ (Or.inr h1) hm hop', rfl⟩
            · cases ho
        · cases ho
      · rename_i j q c' e1
        rw [e1] at hm
        split at ho
        · rename_i hc
          simp only [Bool.and_eq_true, beq_iff_eq] at hc
          obtain ⟨hc1, hc2, rfl⟩ := hc
          obtain ⟨ao, cap, hv, _⟩ := hM.innerSl j q (K c') hc2 (hK.p c' j q hc1)
          cases ho
          exact ⟨_, x_len_slice hop' (Or.inl rfl) (hm.trans hv), rfl⟩
        · cases ho
      · rename_i e1
        rw [e1] at hm
        obtain ⟨s, hs⟩ := hm
        split at ho
        · rename_i h1
          obtain rfl : t = 9 := by simpa using h1
          cases ho
          exact ⟨_, x_len_string hop' hs, _, rfl⟩
        · cases ho
      · cases ho
    · cases ho
  · cases ho

/-- A straight line, by tags. -/
def tagOps (Γ : Kinds) (Φ : Known) (N : Nat) : List Oper → Tags → Option Tags
  | [], σ => some σ
  | o :: l, σ => match o.guard, o.dst, tagOp Γ Φ σ o.op with
    | none, some d, some t => if d < N then tagOps Γ Φ N l (fun s => if s = d then t else σ s) else none
    | _, _, _ => none

theorem tagOps_sound {Γ : Kinds} {w : World} {M : Env} {K : Nat → Nat} {Φ : Known} (hM : MemOK Γ w M) (hK : KnownOK M K Φ) {N : Nat} {ops : Array Oper} {Q : Exit → Act → World → Prop} :
    ∀ (l : List Oper) (σ σ' : Tags) (a : Act), tagOps Γ Φ N l σ = some σ' → Tagged M K σ a → a.tmps.size = N → a.defers = [] →
      (∀ a', Tagged M K σ' a' → a'.tmps.size = N → a'.defers = [] → Q .normal a' w) → wpList Try.prog ops Q l a w
  | [], σ, σ', a, h, ht, hs, hd, hq => by
    cases h
    exact wpList_nil (hq a ht hs hd)
  | o :: l, σ, σ', a, h, ht, hs, hd, hq => by
    unfold tagOps at h
    split at h
    · rename_i d t hg hdst hop
      split at h
      · rename_i hlt
        obtain ⟨v, hrun, hm⟩ := tagOp_sound hM hK ht o t hop
        refine wpList_plain hg fun K' hK' => ?_
        unfold Oper.wp
        rw [hrun]
        refine hK' _ _ (tagOps_sound hM hK l _ σ' (a.put o.dst v) h ?_ ?_ ?_ hq)
        · intro s
          rw [hdst]
          show Mean M K (if s = d then t else σ s) _
          by_cases hsd : s = d
          · subst hsd
            rw [if_pos rfl, eval_put_same (by rw [hs]; exact hlt)]
            exact hm
          · rw [if_neg hsd, eval_put_ne hsd]
            exact ht s
        · rw [hdst, size_put]
          exact hs
        · rw [defers_put]
          exact hd
      · cases h
    · cases h

/-! ### statements -/

/-- The named slots: the boxes' pointers, the sum, the counters of the loops at hand. -/
def named (bx : List (Nat × Nat)) (z : Nat) (cs : List Nat) : Tags := fun t =>
  match bx.lookup t with
  | some j => [3, j, 0]
  | none => if t = z then [1] else if cs.contains t then [6, t] else []

def keeps (bx : List (Nat × Nat)) (z : Nat) (cs : List Nat) (σ : Tags) : Bool := bx.all (fun p => σ p.1 == [3, p.2, 0]) && isInt (σ z) && cs.all (fun c => σ c == [6, c])

theorem lookup_mem {bx : List (Nat × Nat)} {t j : Nat} (h : bx.lookup t = some j) : (t, j) ∈ bx := by
  induction bx with
  | nil => cases h
  | cons p l ih =>
    obtain ⟨u, k⟩ := p
    rw [List.lookup_cons] at h
    split at h
    · rename_i e
      cases h
      simp at e
      subst e
      exact List.mem_cons_self
    · exact List.mem_cons_of_mem _ (ih h)

theorem keeps_named {M : Env} {K : Nat → Nat} {bx : List (Nat × Nat)} {z : Nat} {cs : List Nat} {σ : Tags} {a : Act} (h : keeps bx z cs σ = true) (ht : Tagged M K σ a) : Tagged M K (named bx z cs) a := by
  simp only [keeps, Bool.and_eq_true, List.all_eq_true, beq_iff_eq] at h
  obtain ⟨⟨h1, h2⟩, h3⟩ := h
  intro t
  unfold named
  split
  · rename_i j hj
    have := ht t
    rw [h1 (t, j) (lookup_mem hj)] at this
    exact this
  · split
    · rename_i e
      subst e
      exact (ht t).int h2
    · split
      · rename_i hc
        have := ht t
        rw [h3 t (by simpa using hc)] at this
        exact this
      · trivial

/-- The frame at a statement's head. -/
structure At (M : Env) (K : Nat → Nat) (N : Nat) (bx : List (Nat × Nat)) (z : Nat) (cs : List Nat) (a : Act) : Prop where
  tags : Tagged M K (named bx z cs) a
  size : a.tmps.size = N
  defers : a.defers = []

/-- The frame at a return. -/
structure Done (N R : Nat) (a : Act) : Prop where
  val : ∃ b, a.eval (.tmp R) = .bool b
  size : a.tmps.size = N
  defers : a.defers = []

/-- The code runs to its end, and the named slots hold what they should, or it returns; the world stands. -/
def Ok (w : World) (M : Env) (N R : Nat) (bx : List (Nat × Nat)) (z : Nat) (cs : List Nat) (K : Nat → Nat) (c : Code) : Prop :=
  ∀ (a : Act) (Q : Exit → Act → World → Prop), At M K N bx z cs a → (∀ a', At M K N bx z cs a' → Q .normal a' w) → (∀ a', Done N R a' → Q .ret a' w) → c.wp Try.prog Q a w

section
variable {Γ : Kinds} {w : World} {M : Env} {K : Nat → Nat} {Φ : Known} {N R z : Nat} {bx : List (Nat × Nat)} {cs : List Nat}

theorem Ok.seq {c d : Code} (h1 : Ok w M N R bx z cs K c) (h2 : Ok w M N R bx z cs K d) : Ok w M N R bx z cs K (.seq c d) := fun a Q ha hn hr =>
  wp_seq (h1 a _ ha (fun a' ha' => h2 a' Q ha' hn hr) hr)

theorem Ok.block {id : Nat} {c : Code} (h : Ok w M N R bx z cs K c) : Ok w M N R bx z cs K (.block id c) := fun a Q ha hn hr => wp_block (h a _ ha hn hr)

theorem Ok.region (hM : MemOK Γ w M) (hK : KnownOK M K Φ) {i : Nat} {l : List Oper} (h : (tagOps Γ Φ N l (named bx z cs)).any (keeps bx z cs) = true) : Ok w M N R bx z cs K (.region i l.toArray false) := fun a Q ha hn hr => by
  obtain ⟨σ, hσ, hk⟩ := (Option.any_eq_true _ _).1 h
  exact wp_region_lit (tagOps_sound hM hK l _ σ a hσ ha.tags ha.size ha.defers (fun a' h1 h2 h3 => hn a' ⟨keeps_named hk h1, h2, h3⟩))

/-- 'if .. { return false }'. -/
theorem Ok.ifret (hM : MemOK Γ w M) (hK : KnownOK M K Φ) {i j d ty : Nat} {pos : String} {aft : Array Edge} {l : List Oper} {b : Bool} (hR : R < N) (h : (tagOps Γ Φ N l (named bx z cs)).any (fun σ => keeps bx z cs σ && σ d == [2]) = true) :
    Ok w M N R bx z cs K (.seq (.region i l.toArray false) (.cond (.tmp d) (.seq (.region j #[⟨some R, .assign (.const (.bool b)), ty, pos, aft, none⟩] false) .ret) .skip)) := fun a Q ha hn hr => by
  obtain ⟨σ, hσ, hk⟩ := (Option.any_eq_true _ _).1 h
  simp only [Bool.and_eq_true, beq_iff_eq] at hk
  refine wp_seq (wp_region_lit (tagOps_sound hM hK l _ σ a hσ ha.tags ha.size ha.defers (fun a' h1 h2 h3 => ?_)))
  have hd := h1 d
  rw [hk.2] at hd
  obtain ⟨t, ht⟩ := hd
  refine wp_cond_split ht (fun _ => ?_) (fun _ => wp_skip (hn a' ⟨keeps_named hk.1 h1, h2, h3⟩))
  refine wp_seq (wp_region_lit (l := [_]) (wpList_plain rfl fun K' hK' => ?_))
  unfold Oper.wp
  rw [x_assign rfl]
  refine hK' _ _ (wpList_nil (wp_ret (hr _ ⟨⟨b, eval_put_same (by omega)⟩, by rw [size_put]; exact h2, by rw [defers_put]; exact h3⟩)))

def upd (K : Nat → Nat) (c k : Nat) : Nat → Nat := fun d => if d = c then k else K d
theorem upd_same (K : Nat → Nat) (c k : Nat) : upd K c k c = k := by simp [upd]
theorem upd_ne (K : Nat → Nat) {c d : Nat} (k : Nat) (h : d ≠ c) : upd K c k d = K d := by simp [upd, h]

/-- Is c no named slot? -/
def isNew (N : Nat) (bx : List (Nat × Nat)) (z : Nat) (cs : List Nat) (c : Nat) : Bool := (bx.lookup c).isNone && (c != z) && !cs.contains c && decide (c < N)

theorem named_box {t j : Nat} (h : bx.lookup t = some j) : named bx z cs t = [3, j, 0] := by simp [named, h]
theorem named_sum {t : Nat} (h : bx.lookup t = none) (e : t = z) : named bx z cs t = [1] := by subst e; simp [named, h]
theorem named_ctr {t : Nat} (h : bx.lookup t = none) (e : t ≠ z) (hc : cs.contains t = true) : named bx z cs t = [6, t] := by simp only [named, h, if_neg e, hc, if_true]
theorem named_no {t : Nat} (h : bx.lookup t = none) (e : t ≠ z) (hc : cs.contains t = false) : named bx z cs t = [] := by simp only [named, h, if_neg e, hc]; rfl

theorem isNew_out {c : Nat} (hc : isNew N bx z cs c = true) : bx.lookup c = none ∧ c ≠ z ∧ cs.contains c = false ∧ c < N := by
  simp only [isNew, Bool.and_eq_true, Option.isNone_iff_eq_none, bne_iff_ne, Bool.not_eq_true', decide_eq_true_eq] at hc
  exact ⟨hc.1.1.1, hc.1.1.2, hc.1.2, hc.2⟩

theorem at_upd {c k : Nat} {a : Act} (hc : isNew N bx z cs c = true) (h : At M K N bx z cs a) (hv : a.eval (.tmp c) = .int .i64 k) : At M (upd K c k) N bx z (c :: cs) a := by
  obtain ⟨h1, h2, h3, h4⟩ := isNew_out hc
  refine ⟨fun t => ?_, h.size, h.defers⟩
  have ht := h.tags t
  cases hb : bx.lookup t with
  | some j =>
    rw [named_box hb] at ht ⊢
    exact ht
  | none =>
    by_cases e2 : t = z
    · rw [named_sum hb e2] at ht ⊢
      exact ht
    · by_cases e : t = c
      · rw [named_ctr hb e2 (by simp [e])]
        show a.eval (.tmp t) = .int .i64 (upd K c k t)
        rw [e, upd_same]
        exact hv
      · cases hcs : cs.contains t with
        | true =>
          rw [named_ctr hb e2 hcs] at ht
          rw [named_ctr hb e2 (by simp at hcs ⊢; exact Or.inr hcs)]
          show a.eval (.tmp t) = .int .i64 (upd K c k t)
          rw [upd_ne _ _ e]
          exact ht
        | false =>
          rw [named_no hb e2 (by simp at hcs ⊢; exact ⟨e, hcs⟩)]
          trivial

theorem at_down {c k : Nat} {a : Act} (hc : isNew N bx z cs c = true) (h : At M (upd K c k) N bx z (c :: cs) a) : At M K N bx z cs a ∧ a.eval (.tmp c) = .int .i64 k := by
  obtain ⟨h1, h2, h3, h4⟩ := isNew_out hc
  refine ⟨⟨fun t => ?_, h.size, h.defers⟩, ?_⟩
  · have ht := h.tags t
    cases hb : bx.lookup t with
    | some j =>
      rw [named_box hb] at ht ⊢
      exact ht
    | none =>
      by_cases e2 : t = z
      · rw [named_sum hb e2] at ht ⊢
        exact ht
      · by_cases e : t = c
        · rw [named_no hb e2 (by rw [e]; exact h3)]
          trivial
        · cases hcs : cs.contains t with
          | true =>
            rw [named_ctr hb e2 (by simp at hcs ⊢; exact Or.inr hcs)] at ht
            rw [named_ctr hb e2 hcs]
            have ht' : a.eval (.tmp t) = .int .i64 (upd K c k t) := ht
            rw [upd_ne _ _ e] at ht'
            exact ht'
          | false =>
            rw [named_no hb e2 hcs]
            trivial
  · have ht := h.tags c
    rw [named_ctr h1 h2 (by simp)] at ht
    have ht' : a.eval (.tmp c) = .int .i64 (upd K c k c) := ht
    rw [upd_same] at ht'
    exact ht'

/-- A slot that is no named one may be written. -/
theorem at_put {d : Nat} {v : Value} {a : Act} (hd : isNew N bx z cs d = true) (h : At M K N bx z cs a) : At M K N bx z cs (a.put (some d) v) := by
  obtain ⟨h1, h2, h3, h4⟩ := isNew_out hd
  refine ⟨fun t => ?_, by rw [size_put]; exact h.size, by rw [defers_put]; exact h.defers⟩
  have ht := h.tags t
  by_cases e : t = d
  · subst e
    rw [named_no h1 h2 h3]
    trivial
  · rw [eval_put_ne e]
    exact ht

theorem x_one {o : Oper} {v : Value} {a : Act} {ops : Array Oper} {Q : Exit → Act → World → Prop} {rest : List Oper} (hg : o.guard = none) (hrun : (execOp a.eval o).run Try.prog w = .ok (.value v) w) (h : wpList Try.prog ops Q rest (a.put o.dst v) w) : wpList Try.prog ops Q (o :: rest) a w := by
  refine wpList_plain hg fun K' hK' => ?_
  unfold Oper.wp
  rw [hrun]
  exact hK' _ _ h

/-- A counted loop: 'for c := 0; c < n; c++ { .. }'. -/
theorem Ok.for {i i1 i2 id id2 c d d1 d2 u1 u2 u3 u4 u5 : Nat} {q1 q2 q3 q4 : String} {f1 f2 f3 f4 : Array Edge} {tops : List Oper} {body : Code} (n : Nat) (hn : n ≤ 140737488351232) (hc : isNew N bx z cs c = true)
    (htest : ∀ k, k ≤ n → ∀ (a : Act) (Q : Exit → Act → World → Prop), At M (upd K c k) N bx z (c :: cs) a → (∀ a', At M (upd K c k) N bx z (c :: cs) a' → a'.eval (.tmp d) = .bool (decide (k < n)) → Q .normal a' w) → (Code.region i1 tops.toArray false).wp Try.prog Q a w)
    (hbody : ∀ k, k < n → Ok w M N R bx z (c :: cs) (upd K c k) body)
    (h1 : isNew N bx z (c :: cs) d1 = true) (h2 : isNew N bx z (c :: cs) d2 = true) :
    Ok w M N R bx z cs K (.seq (.region i #[⟨some c, .assign (.const (.int .i64 0)), u1, q1, f1, none⟩] false)
      (.block id (.loop (.seq (.seq (.region i1 tops.toArray false) (.cond (.tmp d) .skip (.exit id))) (.seq (.block id2 body)
        (.region i2 #[⟨some d1, .move (.tmp c), u2, q2, f2, none⟩, ⟨some d2, .binOp .add 3 (.tmp d1) (.const (.int .i64 1)) u5, u3, q3, f3, none⟩, ⟨some c, .assign (.tmp d2), u4, q4, f4, none⟩] false)))))) := fun a Q ha hN hr => by
  obtain ⟨e1, e2, e3, e4⟩ := isNew_out hc
  obtain ⟨g1, g2, g3, g4⟩ := isNew_out h1
  obtain ⟨k1, k2, k3, k4⟩ := isNew_out h2
  have hd1c : d1 ≠ c := fun e => by rw [e] at g3; simp at g3
  have hd2c : d2 ≠ c := fun e => by rw [e] at k3; simp at k3
  refine wp_seq (wp_region_lit (l := [_]) (x_one rfl (x_assign rfl) (wpList_nil ?_)))
  refine wp_block (wp_loop (fun a' w' => w' = w ∧ ∃ k, k ≤ n ∧ At M (upd K c k) N bx z (c :: cs) a') (fun a' _ => n - (intOf (a'.eval (.tmp c))).toNat) ⟨rfl, 0, Nat.zero_le _, ?_⟩ ?_)
  · exact at_upd hc (at_put hc ha) (eval_put_same (by rw [ha.size]; exact e4))
  · rintro a' w' ⟨rfl, k, hk, hA⟩
    have hcv := (at_down hc hA).2
    refine wp_seq (wp_seq (htest k hk a' _ hA (fun a2 hA2 hd => ?_)))
    by_cases hlt : k < n
    · refine wp_cond_true (by rw [hd]; simp [hlt]) (wp_skip ?_)
      refine wp_seq (wp_block (hbody k hlt a2 _ hA2 (fun a3 hA3 => ?_) (fun a3 hD => hr a3 hD)))
      have hcv3 := (at_down hc hA3).2
      have hw : IntKind.i64.wrap ((k : Int) + 1) = ((k + 1 : Nat) : Int) := by
        have : ((k : Int) + 1) = ((k + 1 : Nat) : Int) := by omega
        rw [this, IntKind.wrap_i64]
        omega
      refine wp_region_lit (l := [_, _, _]) (x_one rfl (x_move rfl) (x_one rfl (x_add rfl (m := k) (n := 1) ?_ rfl) (x_one rfl (x_assign rfl) (wpList_nil ?_))))
      · rw [eval_put_same (by rw [hA3.size]; exact g4)]
        exact hcv3
      · have hA4 := at_put (v := .int .i64 (IntKind.i64.wrap (k + 1))) hc (at_down hc (at_put (v := .int .i64 (IntKind.i64.wrap (k + 1))) h2 (at_put (v := a3.eval (.tmp c)) h1 hA3))).1
        have hv4 : (((a3.put (some d1) (a3.eval (.tmp c))).put (some d2) (.int .i64 (IntKind.i64.wrap (k + 1)))).eval (.tmp d2)) = .int .i64 (IntKind.i64.wrap (k + 1)) := eval_put_same (by rw [size_put, hA3.size]; exact k4)
        refine ⟨⟨rfl, k + 1, hlt, ?_⟩, ?_⟩
        · rw [hv4]
          exact at_upd hc hA4 (by rw [eval_put_same (by rw [size_put, size_put, hA3.size]; exact e4), hw])
        · rw [hv4, eval_put_same (by rw [size_put, size_put, hA3.size]; exact e4), hcv, hw]
          simp [intOf]
          omega
    · refine wp_cond_false (by rw [hd]; simp [hlt]) (wp_exit ?_)
      show (if id = id then Q .normal a2 w' else Q (.exit id) a2 w')
      rw [if_pos rfl]
      exact hN a2 (at_down hc hA2).1

def fresh (Φ : Known) (c : Nat) : Bool := Φ.p.all (fun x => x.1 != c) && Φ.q.all (fun x => x.1 != c && x.2.2.2 != c)

theorem known_upd {c k : Nat} (hK : KnownOK M K Φ) (hf : fresh Φ c = true) : KnownOK M (upd K c k) Φ := by
  simp only [fresh, Bool.and_eq_true, List.all_eq_true, bne_iff_ne] at hf
  refine ⟨fun d j o h => ?_, fun d j o e h => ?_⟩
  · have := hf.1 (d, j, o) (by simpa using h)
    rw [upd_ne _ _ this]
    exact hK.p d j o h
  · have := hf.2 (d, j, o, e) (by simpa using h)
    rw [upd_ne _ _ this.1, upd_ne _ _ this.2]
    exact hK.q d j o e h

theorem known_p {c k j o : Nat} (hK : KnownOK M K Φ) (hf : fresh Φ c = true) (hk : k < M.L j o) : KnownOK M (upd K c k) ⟨(c, j, o) :: Φ.p, Φ.q⟩ := by
  have h := known_upd (k := k) hK hf
  refine ⟨fun d j' o' hd => ?_, h.q⟩
  simp only [List.contains_cons, Bool.or_eq_true, beq_iff_eq, Prod.mk.injEq] at hd
  rcases hd with ⟨rfl, rfl, rfl⟩ | hd
  · rw [upd_same]
    exact hk
  · exact h.p d j' o' hd

theorem known_q {c c1 k j o : Nat} (hK : KnownOK M K Φ) (hf : fresh Φ c = true) (hne : c1 ≠ c) (hk : k < M.I j o (K c1)) : KnownOK M (upd K c k) ⟨Φ.p, (c, j, o, c1) :: Φ.q⟩ := by
  have h := known_upd (k := k) hK hf
  refine ⟨h.p, fun d j' o' e hd => ?_⟩
  simp only [List.contains_cons, Bool.or_eq_true, beq_iff_eq, Prod.mk.injEq] at hd
  rcases hd with ⟨rfl, rfl, rfl, rfl⟩ | hd
  · rw [upd_same, upd_ne _ _ hne]
    exact hk
  · exact h.q d j' o' e hd

/-- A loop over the slice in cell (j, o). -/
theorem Ok.forL (hM : MemOK Γ w M) (hK : KnownOK M K Φ) (j o κ : Nat) {i i1 i2 id id2 c d d1 d2 u1 u2 u3 u4 u5 : Nat} {q1 q2 q3 q4 : String} {f1 f2 f3 f4 : Array Edge} {tops : List Oper} {body : Code} (hκ : Γ.lookup (j, o) = some κ)
    (hc : isNew N bx z cs c = true) (hf : fresh Φ c = true) (ht : (tagOps Γ Φ N tops (named bx z (c :: cs))).any (fun σ => keeps bx z (c :: cs) σ && σ d == [11, c, j, o]) = true)
    (h1 : isNew N bx z (c :: cs) d1 = true) (h2 : isNew N bx z (c :: cs) d2 = true)
    (hbody : ∀ k, KnownOK M (upd K c k) ⟨(c, j, o) :: Φ.p, Φ.q⟩ → Ok w M N R bx z (c :: cs) (upd K c k) body) :
    Ok w M N R bx z cs K (.seq (.region i #[⟨some c, .assign (.const (.int .i64 0)), u1, q1, f1, none⟩] false)
      (.block id (.loop (.seq (.seq (.region i1 tops.toArray false) (.cond (.tmp d) .skip (.exit id))) (.seq (.block id2 body)
        (.region i2 #[⟨some d1, .move (.tmp c), u2, q2, f2, none⟩, ⟨some d2, .binOp .add 3 (.tmp d1) (.const (.int .i64 1)) u5, u3, q3, f3, none⟩, ⟨some c, .assign (.tmp d2), u4, q4, f4, none⟩] false)))))) := by
  refine Ok.for (M.L j o) (hM.small j o κ hκ) hc (fun k hk a Q ha hq => ?_) (fun k hk => hbody k (known_p hK hf hk)) h1 h2
  obtain ⟨σ, hσ, hk'⟩ := (Option.any_eq_true _ _).1 ht
  simp only [Bool.and_eq_true, beq_iff_eq] at hk'
  refine wp_region_lit (tagOps_sound hM (known_upd hK hf) tops _ σ a hσ ha.tags ha.size ha.defers (fun a' g1 g2 g3 => hq a' ⟨keeps_named hk'.1 g1, g2, g3⟩ ?_))
  have := g1 d
  rw [hk'.2] at this
  have h' : a'.eval (.tmp d) = .bool (decide (upd K c k c < M.L j o)) := this
  rw [upd_same] at h'
  exact h'

/-- A loop over the slice that the counter c1 picks of the slices in cell (j, o). -/
theorem Ok.forI (hM : MemOK Γ w M) (hK : KnownOK M K Φ) (j o c1 : Nat) {i i1 i2 id id2 c d d1 d2 u1 u2 u3 u4 u5 : Nat} {q1 q2 q3 q4 : String} {f1 f2 f3 f4 : Array Edge} {tops : List Oper} {body : Code} (hκ : Γ.lookup (j, o) = some 3) (hp : Φ.p.contains (c1, j, o) = true) (hne : (c1 != c) = true)
    (hc : isNew N bx z cs c = true) (hf : fresh Φ c = true) (ht : (tagOps Γ Φ N tops (named bx z (c :: cs))).any (fun σ => keeps bx z (c :: cs) σ && σ d == [12, c, j, o, c1]) = true)
    (h1 : isNew N bx z (c :: cs) d1 = true) (h2 : isNew N bx z (c :: cs) d2 = true)
    (hbody : ∀ k, KnownOK M (upd K c k) ⟨Φ.p, (c, j, o, c1) :: Φ.q⟩ → Ok w M N R bx z (c :: cs) (upd K c k) body) :
    Ok w M N R bx z cs K (.seq (.region i #[⟨some c, .assign (.const (.int .i64 0)), u1, q1, f1, none⟩] false)
      (.block id (.loop (.seq (.seq (.region i1 tops.toArray false) (.cond (.tmp d) .skip (.exit id))) (.seq (.block id2 body)
        (.region i2 #[⟨some d1, .move (.tmp c), u2, q2, f2, none⟩, ⟨some d2, .binOp .add 3 (.tmp d1) (.const (.int .i64 1)) u5, u3, q3, f3, none⟩, ⟨some c, .assign (.tmp d2), u4, q4, f4, none⟩] false)))))) := by
  have hne' : c1 ≠ c := by simpa using hne
  obtain ⟨ao, cap, hE, hsm⟩ := hM.innerSl j o (K c1) hκ (hK.p c1 j o hp)
  refine Ok.for (M.I j o (K c1)) hsm hc (fun k hk a Q ha hq => ?_) (fun k hk => hbody k (known_q hK hf hne' hk)) h1 h2
  obtain ⟨σ, hσ, hk'⟩ := (Option.any_eq_true _ _).1 ht
  simp only [Bool.and_eq_true, beq_iff_eq] at hk'
  refine wp_region_lit (tagOps_sound hM (known_upd hK hf) tops _ σ a hσ ha.tags ha.size ha.defers (fun a' g1 g2 g3 => hq a' ⟨keeps_named hk'.1 g1, g2, g3⟩ ?_))
  have := g1 d
  rw [hk'.2] at this
  have h' : a'.eval (.tmp d) = .bool (decide (upd K c k c < M.I j o (upd K c k c1))) := this
  rw [upd_same, upd_ne _ _ hne'] at h'
  exact h'

/-- 'return true' at the end. -/
theorem Ok.last {i ty : Nat} {pos : String} {aft : Array Edge} {b : Bool} (hR : R < N) : Ok w M N R bx z cs K (.seq (.region i #[⟨some R, .assign (.const (.bool b)), ty, pos, aft, none⟩] false) .ret) := fun a Q ha hn hr => by
  refine wp_seq (wp_region_lit (l := [_]) (x_one rfl (x_assign rfl) (wpList_nil (wp_ret (hr _ ⟨⟨b, eval_put_same (by rw [ha.size]; exact hR)⟩, by rw [size_put]; exact ha.size, by rw [defers_put]; exact ha.defers⟩)))))

end

end Go.Proofs.Qxb6601448a
