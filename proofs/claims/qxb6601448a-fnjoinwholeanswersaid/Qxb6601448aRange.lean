/- Ranging over a map that may be nil, looking up in one: one law each at the operation. -/
import Derived.Test.Qxb6601448aMaps
namespace Go.Proofs.Qxb6601448a
open Go.RowKit
open Go.Maps (Keyed)
set_option linter.unusedVariables false

theorem key_inv {k : Value} {kl : Lit} (h : keyOf Try.prog 9 k = some kl) : ∃ s : ByteArray, k = .string s ∧ kl = key s ∧ s.size ≤ maxLen := by
  cases k <;> simp [keyOf, Try.underlying9, mapKey] at h
  obtain ⟨h1, rfl⟩ := h
  exact ⟨_, rfl, rfl, h1⟩

/-- A range over the map mo under way, its iterator in block r. -/
def Ranging (R : Value → Option (DataW Value × List MemPlace)) (w : World) (mo : Option Nat) (r n : Nat) (D : DataW Value) (left : Lit → Bool) (cnt : Nat) : Prop :=
  match mo with
  | none => D = .map [] ∧ cnt = 0 ∧ (∀ kl, left kl = false) ∧ ∃ a s b, w.heap[r]? = some (.mapIter none a s b)
  | some b => w.ranges Try.prog 9 R b r n D left cnt

def leftOver (w : World) (mo : Option Nat) (r : Nat) : Nat :=
  match mo with
  | none => 0
  | some b => w.rangeLeft b r

variable {R : Value → Option (DataW Value × List MemPlace)}

theorem Ranging.left_eq {w : World} {mo : Option Nat} {r n : Nat} {D : DataW Value} {left : Lit → Bool} {cnt : Nat} (h : Ranging R w mo r n D left cnt) : leftOver w mo r = cnt := by
  cases mo with
  | none => exact h.2.1.symm
  | some b => exact World.ranges.left_eq h

/-- The range stays where it is while the map's block and the iterator's are kept. -/
theorem Ranging.kept {w w' : World} {mo : Option Nat} {r n : Nat} {D : DataW Value} {left : Lit → Bool} {cnt : Nat} (h : Ranging R w mo r n D left cnt) (hb : ∀ b, mo = some b → w'.heap[b]? = w.heap[b]?) (hr : w'.heap[r]? = w.heap[r]?) : Ranging R w' mo r n D left cnt := by
  cases mo with
  | none =>
    obtain ⟨h1, h2, h3, a, s, b, h4⟩ := h
    exact ⟨h1, h2, h3, a, s, b, hr.trans h4⟩
  | some b =>
    obtain ⟨es, clock, since, seen, c0, h1, F, hs, hD, h2, rest⟩ := h
    exact ⟨es, clock, since, seen, c0, (hb b rfl).trans h1, F, hs, hD, hr.trans h2, rest⟩

theorem size_nil : Maps.size (DataW.map [] : DataW Value) = 0 := rfl

theorem wpList_range_is (w : World) {ops : Array Oper} {rest : List Oper} {o : Oper} {a : Act} {Q : Exit → Act → World → Prop} (hg : o.guard = none) (m : Operand) (t : TypeId) (hop : o.op = Op.range t m) (e : TypeId) (ht : Try.prog.underlying t = some (.map 9 e))
    (mo : Option Nat) (lo hi n : Nat) (D : DataW Value) (hm : a.eval m = .map mo) (h : MapIs R lo hi w mo n D)
    (hK : ∀ w', Ranging R w' mo w.heap.size n D (Maps.has D) (Maps.size D) → w.grownBy w' none → w'.heap.size = w.heap.size + 1 → wpList Try.prog ops Q rest (a.put o.dst (.pointer (some ⟨w.heap.size, 0, none⟩))) w') :
    wpList Try.prog ops Q (o :: rest) a w := by
  cases mo with
  | some b => exact wpList_range_own w hg m t hop 9 e law9 ht R b n D hm h.2.2 hK
  | none =>
    refine wpList_plain hg fun K' hK' => ?_
    have hD : D = .map [] := h
    subst hD
    have h1 := hK (w.alloc (.mapIter none 0 #[] 0)) ⟨rfl, size_nil, fun kl => by simp [Maps.has], 0, #[], 0, heap_alloc_new w _⟩ (World.grownBy_alloc w _ none) (by simp)
    unfold Oper.wp
    simp [execOp, hop, hm, run_range_nilMap w t 9 e ht, Result.andThen]
    exact hK' _ _ h1

theorem wpList_next_is {β : Type} (w : World) {ops : Array Oper} {rest : List Oper} {o : Oper} {a : Act} {Q : Exit → Act → World → Prop} (hg : o.guard = none) (it : Operand) (hop : o.op = Op.next it false) (mkV : β → Value) (invV : ∀ v y, R v = some y → ∃ c, v = mkV c)
    (mo : Option Nat) (r n : Nat) (D : DataW Value) (left : Lit → Bool) (cnt : Nat) (hit : a.eval it = .pointer (some ⟨r, 0, none⟩)) (h : Ranging R w mo r n D left cnt)
    (hDone : (∀ kl, left kl = false) → wpList Try.prog ops Q rest (a.put o.dst (.tuple #[.bool false])) w)
    (hMore : ∀ (s : ByteArray) (c : β) (y : DataW Value × List MemPlace) (w' : World) (cnt' : Nat), s.size ≤ maxLen → left (key s) = true → R (mkV c) = some y → (∀ zd, D.atKey (key s) zd = y.1) → Ranging R w' mo r n D (fun z => left z && !z.sameKey (key s)) cnt' → cnt' < cnt →
      w.grownBy w' (some r) → w'.heap.size = w.heap.size → (Instr.entry (.pointer (some ⟨r, 0, none⟩))).run Try.prog w' = .ok (.tuple #[.string s, mkV c]) w' → wpList Try.prog ops Q rest (a.put o.dst (.tuple #[.bool true, .string s, mkV c])) w') :
    wpList Try.prog ops Q (o :: rest) a w := by
  cases mo with
  | some b =>
    refine wpList_next_ranges (α := ByteArray) w hg it hop 9 law9 R Value.string mkV (fun k kl hk => let ⟨s, e, _⟩ := key_inv hk; ⟨s, e⟩) invV b r n D left cnt hit h (fun _ hl => hDone hl) ?_
    intro x c kl y w' cnt' hk hl hv hat hrg hlt hgr hsz hen
    obtain ⟨s, e1, rfl, hs⟩ := key_inv hk
    cases e1
    exact hMore x c y w' cnt' hs hl hv hat hrg hlt hgr hsz hen
  | none =>
    refine wpList_plain hg fun K' hK' => ?_
    obtain ⟨h1, h2, h3, a1, s, b, h4⟩ := h
    have hrun : (Instr.next (.pointer (some ⟨r, 0, none⟩)) false o.type).run Try.prog w = .ok (.tuple #[.bool false]) w := by
      simp only [Instr.next, getObj, Sem.run_bind, Sem.run, h4, Result.andThen]
      rfl
    unfold Oper.wp
    simp [execOp, hop, hit, hrun, Result.andThen]
    exact hK' _ _ (hDone h3)

theorem wpList_look_is {β : Type} (w : World) {ops : Array Oper} {rest : List Oper} {o : Oper} {a : Act} {Q : Exit → Act → World → Prop} (hg : o.guard = none) (m x : Operand) (t : TypeId) (hop : o.op = Op.lookup t m x true) (e : TypeId) (ht : Try.prog.underlying t = some (.map 9 e))
    (mkV : β → Value) (invV : ∀ v y, R v = some y → ∃ c, v = mkV c) {z : Value} (hz : (zeroValue e).run Try.prog w = .ok z w) (zd : DataW Value) (zp : List MemPlace) (hzd : R z = some (zd, zp))
    (mo : Option Nat) (lo hi n : Nat) (D : DataW Value) (hm : a.eval m = .map mo) (h : MapIs R lo hi w mo n D) (s : ByteArray) (hx : a.eval x = .string s) (hs : s.size ≤ maxLen)
    (hK : ∀ c ps, R (mkV c) = some (D.atKey (key s) zd, ps) → wpList Try.prog ops Q rest (a.put o.dst (.tuple #[mkV c, .bool (Maps.has D (key s))])) w) :
    wpList Try.prog ops Q (o :: rest) a w := by
  cases mo with
  | some b =>
    refine wpList_lookup_own_ok w hg m x t hop 9 e law9 ht R hz zd zp hzd b n D hm h.2.2 _ (key s) hx (keyOf9 hs) (fun v ps hv => ?_)
    obtain ⟨c, rfl⟩ := invV v _ hv
    exact hK c ps hv
  | none =>
    refine wpList_plain hg fun K' hK' => ?_
    have hD : D = .map [] := h
    subst hD
    obtain ⟨c, rfl⟩ := invV z _ hzd
    have h1 := hK c zp (by simpa [DataW.atKey] using hzd)
    have hrun := Maps.look_nil (w := w) true law9 ht hz (keyOf9 hs)
    unfold Oper.wp
    simp [execOp, hop, hm, hx, hrun, Result.andThen]
    simp [Maps.has] at h1
    exact hK' _ _ h1

/-- A marker's shape. -/
def mkV (c : Int × Option Addr × Nat × Nat) : Value := .agg #[.int .u64 c.1, .slice c.2.1 c.2.2.1 c.2.2.2]
theorem mkV_inv (v : Value) (y : DataW Value × List MemPlace) (h : mkR v = some y) : ∃ c, v = mkV c := by
  obtain ⟨s, a, n, c, rfl, _⟩ := mkR_inv h
  exact ⟨(s, a, n, c), rfl⟩
theorem fiV_inv (v : Value) (y : DataW Value × List MemPlace) (h : fiR v = some y) : ∃ c, v = Value.int .u64 c := by
  obtain ⟨z, rfl, _⟩ := fiR_inv h
  exact ⟨z, rfl⟩
theorem zero86 (w : World) : (zeroValue 86).run Try.prog w = .ok (.agg #[.int .u64 0, .slice none 0 0]) w := by kernel_rfl
theorem zero22 (w : World) : (zeroValue 22).run Try.prog w = .ok (.int .u64 0) w := by kernel_rfl

/-! The same laws, the shapes written out. -/
section
variable (w : World) {ops : Array Oper} {rest : List Oper} {o : Oper} {a : Act} {Q : Exit → Act → World → Prop}

theorem next_marker (hg : o.guard = none) (it : Operand) (hop : o.op = Op.next it false) (mo : Option Nat) (r n : Nat) (D : DataW Value) (left : Lit → Bool) (cnt : Nat) (hit : a.eval it = .pointer (some ⟨r, 0, none⟩)) (h : Ranging mkR w mo r n D left cnt)
    (hDone : (∀ kl, left kl = false) → wpList Try.prog ops Q rest (a.put o.dst (.tuple #[.bool false])) w)
    (hMore : ∀ (s : ByteArray) (z : Int) (pa : Option Addr) (pn pc : Nat) (w' : World) (cnt' : Nat), s.size ≤ maxLen → left (key s) = true → (∀ zd, D.atKey (key s) zd = .held (.agg #[.int .u64 z, .slice pa pn pc])) → Ranging mkR w' mo r n D (fun z => left z && !z.sameKey (key s)) cnt' → cnt' < cnt →
      w.grownBy w' (some r) → w'.heap.size = w.heap.size → (Instr.entry (.pointer (some ⟨r, 0, none⟩))).run Try.prog w' = .ok (.tuple #[.string s, .agg #[.int .u64 z, .slice pa pn pc]]) w' → wpList Try.prog ops Q rest (a.put o.dst (.tuple #[.bool true, .string s, .agg #[.int .u64 z, .slice pa pn pc]])) w') :
    wpList Try.prog ops Q (o :: rest) a w :=
  wpList_next_is w hg it hop mkV mkV_inv mo r n D left cnt hit h hDone (fun s c y w' cnt' hs hl hv hat hrg hlt hgr hsz hen => by
    have hy : y.1 = .held (mkV c) := by
      obtain ⟨_, _, _, _, _, e⟩ := mkR_inv hv
      rw [e]
    exact hMore s c.1 c.2.1 c.2.2.1 c.2.2.2 w' cnt' hs hl (fun zd => (hat zd).trans hy) hrg hlt hgr hsz hen)

theorem next_final (hg : o.guard = none) (it : Operand) (hop : o.op = Op.next it false) (mo : Option Nat) (r n : Nat) (D : DataW Value) (left : Lit → Bool) (cnt : Nat) (hit : a.eval it = .pointer (some ⟨r, 0, none⟩)) (h : Ranging fiR w mo r n D left cnt)
    (hDone : (∀ kl, left kl = false) → wpList Try.prog ops Q rest (a.put o.dst (.tuple #[.bool false])) w)
    (hMore : ∀ (s : ByteArray) (z : Int) (w' : World) (cnt' : Nat), s.size ≤ maxLen → left (key s) = true → (∀ zd, D.atKey (key s) zd = .held (.int .u64 z)) → Ranging fiR w' mo r n D (fun z => left z && !z.sameKey (key s)) cnt' → cnt' < cnt →
      w.grownBy w' (some r) → w'.heap.size = w.heap.size → (Instr.entry (.pointer (some ⟨r, 0, none⟩))).run Try.prog w' = .ok (.tuple #[.string s, .int .u64 z]) w' → wpList Try.prog ops Q rest (a.put o.dst (.tuple #[.bool true, .string s, .int .u64 z])) w') :
    wpList Try.prog ops Q (o :: rest) a w :=
  wpList_next_is w hg it hop (Value.int .u64) fiV_inv mo r n D left cnt hit h hDone (fun s c y w' cnt' hs hl hv hat hrg hlt hgr hsz hen => by
    have hy : y.1 = .held (.int .u64 c) := by
      obtain ⟨_, _, e⟩ := fiR_inv hv
      rw [e]
    exact hMore s c w' cnt' hs hl (fun zd => (hat zd).trans hy) hrg hlt hgr hsz hen)

theorem look_marker (hg : o.guard = none) (m x : Operand) (hop : o.op = Op.lookup 33 m x true) (mo : Option Nat) (lo hi n : Nat) (D : DataW Value) (hm : a.eval m = .map mo) (h : MapIs mkR lo hi w mo n D) (s : ByteArray) (hx : a.eval x = .string s) (hs : s.size ≤ maxLen)
    (hK : ∀ (z : Int) (pa : Option Addr) (pn pc : Nat), D.atKey (key s) (.held (.agg #[.int .u64 0, .slice none 0 0])) = .held (.agg #[.int .u64 z, .slice pa pn pc]) → wpList Try.prog ops Q rest (a.put o.dst (.tuple #[.agg #[.int .u64 z, .slice pa pn pc], .bool (Maps.has D (key s))])) w) :
    wpList Try.prog ops Q (o :: rest) a w :=
  wpList_look_is w hg m x 33 hop 86 Try.underlying33 mkV mkV_inv (zero86 w) (.held (.agg #[.int .u64 0, .slice none 0 0])) [] rfl mo lo hi n D hm h s hx hs (fun c ps hc => by
    obtain ⟨_, _, _, _, _, e⟩ := mkR_inv hc
    exact hK c.1 c.2.1 c.2.2.1 c.2.2.2 (congrArg Prod.fst e))

theorem look_final (hg : o.guard = none) (m x : Operand) (hop : o.op = Op.lookup 34 m x true) (mo : Option Nat) (lo hi n : Nat) (D : DataW Value) (hm : a.eval m = .map mo) (h : MapIs fiR lo hi w mo n D) (s : ByteArray) (hx : a.eval x = .string s) (hs : s.size ≤ maxLen)
    (hK : ∀ z : Int, D.atKey (key s) (.held (.int .u64 0)) = .held (.int .u64 z) → wpList Try.prog ops Q rest (a.put o.dst (.tuple #[.int .u64 z, .bool (Maps.has D (key s))])) w) :
    wpList Try.prog ops Q (o :: rest) a w :=
  wpList_look_is w hg m x 34 hop 22 Try.underlying34 (Value.int .u64) fiV_inv (zero22 w) (.held (.int .u64 0)) [] rfl mo lo hi n D hm h s hx hs (fun c ps hc => by
    obtain ⟨_, _, e⟩ := fiR_inv hc
    exact hK c (congrArg Prod.fst e))

end

end Go.Proofs.Qxb6601448a
