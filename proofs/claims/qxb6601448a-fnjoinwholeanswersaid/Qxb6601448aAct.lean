/- A small checker for code that only reads: straight lines of loads and sums, tests that return, counted loops over slices. It is run by the kernel on the translation of the law's guards; here it is proved sound. -/
import Derived.Test.Qxb6601448aBase
import Derived.Test.Qxb6601448aProg
import Derived.WalkLawsBesides
namespace Go.Proofs.Qxb6601448a
open Go.RowKit
set_option linter.unusedVariables false

/-! ### frames -/
theorem eval_put_same {a : Act} {d : Nat} {v : Value} (h : d < a.tmps.size) : (a.put (some d) v).eval (.tmp d) = v := by
  simp [Act.put, Act.eval, h]
theorem eval_put_ne {a : Act} {d t : Nat} {v : Value} (h : t ≠ d) : (a.put (some d) v).eval (.tmp t) = a.eval (.tmp t) := by
  simp [Act.put, Act.eval, Ne.symm h]
theorem size_put {a : Act} {d : Nat} {v : Value} : (a.put (some d) v).tmps.size = a.tmps.size := by simp [Act.put]
theorem defers_put {a : Act} {d : Option Nat} {v : Value} : (a.put d v).defers = a.defers := by cases d <;> simp [Act.put]

/-! ### what the operations yield -/
section
variable {ρ : Operand → Value} {o : Oper} {w : World}
theorem x_move {x : Operand} (h : o.op = .move x) : (execOp ρ o).run Try.prog w = .ok (.value (ρ x)) w := by simp [execOp, h]
theorem x_assign {x : Operand} (h : o.op = .assign x) : (execOp ρ o).run Try.prog w = .ok (.value (ρ x)) w := by simp [execOp, h]

/-- Where a field of one of the law's structs lies. -/
def offs (t f : Nat) : Option Nat :=
  if t = 27 ∧ f < 6 then some f else if t = 40 ∧ f = 0 then some 0 else if t = 40 ∧ f = 1 then some 6 else if t = 42 ∧ f < 3 then some f else none

theorem x_field {t f d B q : Nat} {x : Operand} (h : o.op = .fieldAddr t x f) (hd : offs t f = some d) (hx : ρ x = .pointer (some ⟨B, q, none⟩)) :
    (execOp ρ o).run Try.prog w = .ok (.value (.pointer (some ⟨B, q + d, none⟩))) w := by
  have key : (Instr.fieldAt t (.pointer (some ⟨B, q, none⟩)) f).run Try.prog w = .ok (.pointer (some ⟨B, q + d, none⟩)) w := by
    unfold offs at hd
    split at hd
    · rename_i h1
      obtain ⟨rfl, h2⟩ := h1
      cases hd
      match f, h2 with
      | 0, _ => simp [go_sem]
      | 1, _ => simp [go_sem]
      | 2, _ => simp [go_sem]
      | 3, _ => simp [go_sem]
      | 4, _ => simp [go_sem]
      | 5, _ => simp [go_sem]
    · split at hd
      · rename_i h1
        obtain ⟨rfl, rfl⟩ := h1
        cases hd
        simp [go_sem]
      · split at hd
        · rename_i h1
          obtain ⟨rfl, rfl⟩ := h1
          cases hd
          simp [go_sem]
        · split at hd
          · rename_i h1
            obtain ⟨rfl, h2⟩ := h1
            cases hd
            match f, h2 with
            | 0, _ => simp [go_sem]
            | 1, _ => simp [go_sem]
            | 2, _ => simp [go_sem]
          · cases hd
  simp [execOp, h, hx, key]

/-- The types whose values lie in one cell. -/
def one (t : Nat) : Bool := t == 9 || t == 23 || t == 24 || t == 25
theorem x_load {t : Nat} {a : Addr} {v : Value} {x : Operand} (h : o.op = .load t x) (ht : one t = true) (hx : ρ x = .pointer (some a)) (hc : w.cell? a = some v) :
    (execOp ρ o).run Try.prog w = .ok (.value v) w := by
  simp [one] at ht
  rcases ht with ((rfl | rfl) | rfl) | rfl <;> simp [execOp, h, hx, hc, go_sem]

theorem x_len_slice {t n cap : Nat} {ao : Option Addr} {x : Operand} (h : o.op = .call { callee := .builtin .len, args := #[x], argTypes := #[t] }) (ht : t = 23 ∨ t = 24 ∨ t = 25) (hx : ρ x = .slice ao n cap) :
    (execOp ρ o).run Try.prog w = .ok (.value (.int .i64 n)) w := by
  rcases ht with rfl | rfl | rfl <;> simp [execOp, h, resolve, invoke, builtin, hx, go_sem]
theorem x_len_string {s : ByteArray} {x : Operand} (h : o.op = .call { callee := .builtin .len, args := #[x], argTypes := #[9] }) (hx : ρ x = .string s) :
    (execOp ρ o).run Try.prog w = .ok (.value (.int .i64 s.size)) w := by
  simp [execOp, h, resolve, invoke, builtin, hx, go_sem]

theorem x_gtr {u : Nat} {x y : Operand} {m n : Int} (h : o.op = .binOp .gtr 3 x y u) (hx : ρ x = .int .i64 m) (hy : ρ y = .int .i64 n) : ∃ b, (execOp ρ o).run Try.prog w = .ok (.value (.bool b)) w := by
  simp [execOp, h, hx, hy, go_sem]
theorem x_lss {u : Nat} {x y : Operand} {m n : Int} (h : o.op = .binOp .lss 3 x y u) (hx : ρ x = .int .i64 m) (hy : ρ y = .int .i64 n) : (execOp ρ o).run Try.prog w = .ok (.value (.bool (decide (m < n)))) w := by
  simp [execOp, h, hx, hy, go_sem]
theorem x_add {u : Nat} {x y : Operand} {m n : Int} (h : o.op = .binOp .add 3 x y u) (hx : ρ x = .int .i64 m) (hy : ρ y = .int .i64 n) : (execOp ρ o).run Try.prog w = .ok (.value (.int .i64 (IntKind.i64.wrap (m + n)))) w := by
  simp [execOp, h, hx, hy, go_sem]

theorem x_index {t n cap b off k : Nat} {x y : Operand} (h : o.op = .indexAddr t x y) (ht : t = 23 ∨ t = 25) (hx : ρ x = .slice (some ⟨b, off, none⟩) n cap) (hy : ρ y = .int .i64 k) (hk : k < n) :
    (execOp ρ o).run Try.prog w = .ok (.value (.pointer (some ⟨b, off + k, none⟩))) w := by
  have h1 : (k : Int) < (n : Int) := by omega
  rcases ht with rfl | rfl <;> simp [execOp, h, hx, hy, go_sem, h1]
end

end Go.Proofs.Qxb6601448a
