/- slices.IndexFunc and slices.DeleteFunc with the method value site.gone. -/
import Derived.Test.Qxb6601448aStr
import Derived.Lib.SliceRun
namespace Go.Proofs.Qxb6601448a
open Go.RowKit
set_option linter.unusedVariables false

/-- The method value site.gone. -/
abbrev goneV (nm : ByteArray) (vp ve : Value) : Value := .func (.func 50) #[.agg #[.string nm, vp, ve]] #[]

/-- What slices.IndexFunc finds. -/
def FirstAt (p : ByteArray → Bool) (ss : List ByteArray) (r : Int) : Prop :=
  (r = -1 ∧ ∀ j, j < ss.length → p (ss.getD j ByteArray.empty) = false) ∨ ∃ k : Nat, k < ss.length ∧ r = k ∧ p (ss.getD k ByteArray.empty) = true ∧ ∀ j, j < k → p (ss.getD j ByteArray.empty) = false

set_option maxHeartbeats 800000 in
theorem indexFunc_any (nm : ByteArray) (vp ve v : Value) (es ss : List ByteArray) (w : World) {lo hi lo' hi' : Nat} (he : StrsAt lo hi w ve es) (hh : hi ≤ w.heap.size) (h : StrsAt lo' hi' w v ss) (hh' : hi' ≤ w.heap.size) :
    Calls Try.prog 62 #[v, goneV nm vp ve] w fun e w' => (∃ r, e = .returned (.int .i64 r) ∧ FirstAt (memS es) ss r) ∧ Below w.heap.size w w' := by
  rcases h.open with ⟨ao, cap, rfl, rfl, hn⟩ | ⟨b, off, cap, hbh, hbl0, rfl, hp, hcap, hb, hc⟩
  · go_enter Try.func62, Try.ntmps62
    go_wp2
    refine wp_loop_rounds 1 ?_
    rw [rounds_succ]
    go_wp2
    go_ret
    exact ⟨⟨-1, rfl, Or.inl ⟨rfl, by simp⟩⟩, Below.refl _ _⟩
  · have hit : ∀ k : Nat, k < ss.length → memS es (ss.getD k ByteArray.empty) = true → (∀ j, j < k → memS es (ss.getD j ByteArray.empty) = false) → FirstAt (memS es) ss k := fun k hk h1 h2 => Or.inr ⟨k, hk, rfl, h1, h2⟩
    have non : (∀ j, j < ss.length → memS es (ss.getD j ByteArray.empty) = false) → FirstAt (memS es) ss (-1) := fun hs => Or.inl ⟨rfl, hs⟩
    have HH := hide hit
    have HN := hide non
    have HE := hide he
    have HC := hide hc
    clear hit non h he hc
    have hbB : b < w.heap.size := by omega
    generalize hlen : ss.length = len at *
    clear hlen
    go_enter Try.func62, Try.ntmps62
    go_wp2
    go_loopw [8] (fun i wr => ∃ k : Nat, k ≤ len ∧ i = .int .i64 k ∧ (∀ j, j < k → memS es (ss.getD j ByteArray.empty) = false) ∧ Below w.heap.size w wr) (fun i _ => len - (intOf i).toNat)
    case atStart => exact ⟨0, Nat.zero_le _, rfl, fun j hj => absurd hj (Nat.not_lt_zero _), Below.refl _ _⟩
    case round =>
      obtain ⟨k, hk, rfl, hpre, hbl⟩ := hrel
      have HP := hide hpre
      clear hpre
      by_cases hlt : k < len
      · have hcell : wr.cell? ⟨b, off + k, none⟩ = some (.string (ss.getD k ByteArray.empty)) := by rw [hbl.cell hbB]; exact unhide HC k hlt
        have HK : Hid (memS es (ss.getD k ByteArray.empty) = true → FirstAt (memS es) ss k) := fun h1 => unhide HH k hlt h1 (unhide HP)
        have HST : Hid (∀ (e : memS es (ss.getD k ByteArray.empty) = false) j, j < k + 1 → memS es (ss.getD j ByteArray.empty) = false) := fun e j hj => by
          by_cases hjk : j < k
          · exact unhide HP j hjk
          · obtain rfl : j = k := by omega
            exact e
        generalize ss.getD k ByteArray.empty = s at hcell HK HST
        have hcall : Calls Try.prog 50 #[.agg #[.string nm, vp, ve], .string s] wr fun e w' => e = .returned (.bool (memS es s)) ∧ Below wr.heap.size wr w' := gone_any nm vp ve es s wr ((unhide HE).same (Same.below hbl hh)) (by have := hbl.size; omega)
        generalize memS es s = q at hcall HK HST
        have HCALL := hide hcall
        clear hcall
        cases q with
        | true =>
          go_wp2_with fail
          refine (unhide HCALL).mono ?_
          rintro e w1 ⟨rfl, b1⟩
          go_wp2
          go_ret
          exact ⟨⟨k, rfl, (unhide HK) (by simp)⟩, hbl.trans (b1.mono hbl.size)⟩
        | false =>
          go_wp2_with fail
          refine (unhide HCALL).mono ?_
          rintro e w1 ⟨rfl, b1⟩
          go_wp2
          go_roundw
          case rel => exact ⟨k + 1, by omega, by go_num, unhide HST (by simp), hbl.trans (b1.mono hbl.size)⟩
          case measure => simp [intOf]; omega
      · obtain rfl : k = len := by omega
        have HRES := hide (unhide HN (unhide HP))
        go_wp2
        go_ret
        exact ⟨⟨-1, rfl, unhide HRES⟩, hbl⟩

/-- A row under way in DeleteFunc: the first i of ys are those of the first j of ss that are kept; from j on ys is ss. -/
structure Kept (p : ByteArray → Bool) (ss ys : List ByteArray) (i j : Nat) : Prop where
  len : ys.length = ss.length
  low : ys.take i = (ss.take j).filter (fun s => !p s)
  high : ys.drop j = ss.drop j
  ij : i < j
  jn : j ≤ ss.length

theorem Kept.start {p : ByteArray → Bool} {ss : List ByteArray} {k : Nat} (hk : k < ss.length) (h1 : p (ss.getD k ByteArray.empty) = true) (h2 : ∀ j, j < k → p (ss.getD j ByteArray.empty) = false) : Kept p ss ss k (k + 1) := by
  refine ⟨rfl, ?_, rfl, by omega, by omega⟩
  rw [List.take_succ_eq_append_getElem hk, List.filter_append]
  have e1 : (ss.take k).filter (fun s => !p s) = ss.take k := by
    rw [List.filter_eq_self]
    intro s hs
    obtain ⟨j, hj, rfl⟩ := List.getElem_of_mem hs
    simp only [List.length_take] at hj
    have := h2 j (by omega)
    simp only [List.getD, List.getElem?_eq_getElem (show j < ss.length by omega), Option.getD_some] at this
    simp [this]
  have e2 : p ss[k] = true := by simpa [List.getD, hk] using h1
  rw [e1]
  simp [e2]

theorem Kept.at {p : ByteArray → Bool} {ss ys : List ByteArray} {i j : Nat} (h : Kept p ss ys i j) (hj : j < ss.length) : ys.getD j ByteArray.empty = ss.getD j ByteArray.empty := by
  have e := congrArg (fun l => l.getD 0 ByteArray.empty) h.high
  simpa [List.getD] using e

theorem Kept.skip {p : ByteArray → Bool} {ss ys : List ByteArray} {i j : Nat} (h : Kept p ss ys i j) (hj : j < ss.length) (hp : p (ss.getD j ByteArray.empty) = true) : Kept p ss ys i (j + 1) := by
  refine ⟨h.len, ?_, ?_, by have := h.ij; omega, by omega⟩
  · have e2 : p ss[j] = true := by simpa [List.getD, hj] using hp
    rw [List.take_succ_eq_append_getElem hj, List.filter_append, ← h.low]
    simp [e2]
  · have := congrArg (List.drop 1) h.high
    simpa [List.drop_drop, Nat.add_comm] using this

theorem Kept.keep {p : ByteArray → Bool} {ss ys : List ByteArray} {i j : Nat} (h : Kept p ss ys i j) (hj : j < ss.length) (hp : p (ss.getD j ByteArray.empty) = false) : Kept p ss (ys.set i (ss.getD j ByteArray.empty)) (i + 1) (j + 1) := by
  have hij := h.ij
  have hl := h.len
  refine ⟨by simpa using hl, ?_, ?_, by omega, by omega⟩
  · have e2 : p ss[j] = false := by simpa [List.getD, hj] using hp
    rw [List.take_succ_eq_append_getElem hj, List.filter_append, ← h.low]
    have e3 : (ys.set i (ss.getD j ByteArray.empty)).take (i + 1) = ys.take i ++ [ss.getD j ByteArray.empty] := by
      rw [List.take_succ_eq_append_getElem (by simp; omega), List.take_set_of_le (Nat.le_refl i)]
      simp
    rw [e3]
    simp [e2, List.getD, hj]
  · rw [List.drop_set_of_lt (by omega)]
    have := congrArg (List.drop 1) h.high
    simpa [List.drop_drop, Nat.add_comm] using this

theorem Kept.done {p : ByteArray → Bool} {ss ys : List ByteArray} {i : Nat} (h : Kept p ss ys i ss.length) : ys.take i = ss.filter (fun s => !p s) := by
  have := h.low
  rwa [List.take_length] at this

end Go.Proofs.Qxb6601448a
