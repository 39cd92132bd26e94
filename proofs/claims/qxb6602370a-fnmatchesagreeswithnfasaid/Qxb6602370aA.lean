/- Rows of bools; the walks of HasSuffix (15), stringslite.CutSuffix (14), strings.CutSuffix (13), zzStarClose (12). -/
import Derived.Test.Qxb6602370aProg
import Derived.Test.Qxb6602370aLaw
import Derived.WalkKit
import Derived.Below
import Derived.WalkSpells
import Derived.BigQuiet
namespace Go.Proofs.Qxb6602370a
open Go.RowKit
set_option linter.unusedVariables false

theorem hide {p : Prop} (h : p) : Hid p := h
theorem unhide {p : Prop} (h : Hid p) : p := h

/-- The byte at j. -/
def byt (s : ByteArray) (j : Nat) : UInt8 := if h : j < s.size then s[j] else 0

theorem byt_eq {s : ByteArray} {j : Nat} (h : j < s.size) : s[j] = byt s j := by simp [byt, h]

theorem byt_test {s : ByteArray} {j : Nat} (h : j < s.size) (c : UInt8) : (((s[j].toNat : Nat) : Int) == ((c.toNat : Nat) : Int)) = decide (byt s j = c) := by
  rw [byt_eq h]
  rw [Bool.eq_iff_iff]
  simp only [beq_iff_eq, decide_eq_true_eq]
  constructor
  · intro h
    exact UInt8.toNat_inj.1 (by omega)
  · intro h
    rw [h]

theorem byt_is {s : ByteArray} {j : Nat} (h : j < s.size) (e : byt s j = 42) : (((s[j].toNat : Nat) : Int) == 42) = true := by
  have := byt_test h 42
  rw [e] at this
  simpa using this
theorem byt_isnt {s : ByteArray} {j : Nat} (h : j < s.size) (e : byt s j ≠ 42) : (((s[j].toNat : Nat) : Int) == 42) = false := by
  have := byt_test h 42
  rw [decide_eq_false e] at this
  exact this

/-- Does the pattern end in a dollar? -/
def anchOf (s : ByteArray) : Bool := decide (0 < s.size ∧ byt s (s.size - 1) = 36)
/-- The pattern without it. -/
def coreOf (s : ByteArray) : ByteArray := if anchOf s = true then s.extract 0 (s.size - 1) else s

theorem anch_extract {s : ByteArray} (h : 0 < s.size) : ((s.extract (s.size - 1) s.size).toList == [36]) = anchOf s := by
  have h1 : (s.extract (s.size - 1) s.size).toList = [byt s (s.size - 1)] := by
    rw [ByteArray.toList_eq]
    apply List.ext_getElem
    · simp [ByteArray.data_extract]
      have : s.data.size = s.size := rfl
      omega
    · intro i h1 h2
      have hi : i = 0 := by simpa using h2
      subst hi
      have hd : s.size - 1 < s.size := by omega
      simp only [byt, dif_pos hd, ByteArray.data_extract, Array.getElem_toList, Array.getElem_extract, List.getElem_cons_zero]
      rfl
  rw [h1]
  rw [Bool.eq_iff_iff]
  simp [anchOf, h]

theorem hasSuffix_any (s : ByteArray) (w1 : s.size ≤ 4096) (w : World) : Calls Try.prog 15 #[.string s, .string ⟨#[36]⟩] w fun e w' => e = .returned (.bool (anchOf s)) ∧ w' = w := by
  by_cases h : 0 < s.size
  · have he := anch_extract h
    have HE := hide he
    clear he
    go_enter Try.func15, Try.ntmps15
    go_wp2
    go_ret
    exact ⟨by rw [unhide HE]; rfl, rfl⟩
  · have he : anchOf s = false := by simp [anchOf, h]
    have HE := hide he
    clear he
    go_enter Try.func15, Try.ntmps15
    go_wp2
    go_ret
    exact ⟨by rw [unhide HE]; rfl, rfl⟩

theorem cutSuffix_any (s : ByteArray) (w1 : s.size ≤ 4096) (w : World) : Calls Try.prog 14 #[.string s, .string ⟨#[36]⟩] w fun e w' => e = .returned (.tuple #[.string (coreOf s), .bool (anchOf s)]) ∧ w' = w := by
  cases hb : anchOf s with
  | true =>
    have h0 : 0 < s.size := by simp [anchOf] at hb; exact hb.1
    have HC : Hid (coreOf s = s.extract 0 (s.size - 1)) := hide (by simp [coreOf, hb])
    have HB := hide hb
    clear hb
    go_enter Try.func14, Try.ntmps14
    go_wp2_with (go_at_call 15; refine (hasSuffix_any s w1 _).mono ?_; rintro e w' ⟨rfl, rfl⟩; rw [unhide HB])
    go_ret2
    exact ⟨by rw [unhide HC]; rfl, rfl⟩
  | false =>
    have HC : Hid (coreOf s = s) := hide (by simp [coreOf, hb])
    have HB := hide hb
    clear hb
    go_enter Try.func14, Try.ntmps14
    go_wp2_with (go_at_call 15; refine (hasSuffix_any s w1 _).mono ?_; rintro e w' ⟨rfl, rfl⟩; rw [unhide HB])
    go_ret2
    exact ⟨by rw [unhide HC]; rfl, rfl⟩

theorem cut_any (s : ByteArray) (w1 : s.size ≤ 4096) (w : World) : Calls Try.prog 13 #[.string s, .string ⟨#[36]⟩] w fun e w' => e = .returned (.tuple #[.string (coreOf s), .bool (anchOf s)]) ∧ w' = w := by
  generalize hc : coreOf s = c
  generalize hb : anchOf s = b
  have HC := hide hc
  have HB := hide hb
  clear hc hb
  go_enter Try.func13, Try.ntmps13
  go_wp2_with (go_at_call 14; refine (cutSuffix_any s w1 _).mono ?_; rintro e w' ⟨rfl, rfl⟩; rw [unhide HC, unhide HB])
  go_ret2
  exact ⟨rfl, rfl⟩

/-- A row of m + 1 bools in the block g. -/
def Row (base g m : Nat) (f : Nat → Bool) (w : World) : Prop := w.ownsRow base 4 1 (.slice (some ⟨g, 0, none⟩) (m + 1 : Nat) (m + 1 : Nat)) (m + 1) ((List.range (m + 1)).map fun j => .bool (f j))

theorem Row.cell {base g m : Nat} {f : Nat → Bool} {w : World} (h : Row base g m f w) {j : Nat} (hj : j ≤ m) : w.cell? ⟨g, j, none⟩ = some (.bool (f j)) := by
  rw [World.ownsRow.cellAt h j (by omega)]
  simp [show j < m + 1 by omega]
theorem Row.thaw {base g m : Nat} {f : Nat → Bool} {w : World} (h : Row base g m f w) (j : Nat) : w.frozen? ⟨g, j, none⟩ = false := World.ownsRow.frozenAt h j
theorem Row.put {base g m : Nat} {f : Nat → Bool} {w : World} (h : Row base g m f w) (j : Nat) (b : Bool) : Row base g m (fun x => if x = j then b else f x) (w.setCell ⟨g, j, none⟩ (.bool b)) ∧ w.grownBy (w.setCell ⟨g, j, none⟩ (.bool b)) (some g) := by
  have hs := World.ownsRow.stored h j (.bool b)
  refine ⟨?_, hs.2⟩
  have he : ((List.range (m + 1)).map fun x => Value.bool (f x)).set j (.bool b) = (List.range (m + 1)).map fun x => .bool (if x = j then b else f x) := by
    apply List.ext_getElem?
    intro i
    rw [List.getElem?_set]
    by_cases hi : j = i
    · subst hi
      by_cases hj : j < m + 1 <;> simp [hj]
    · rw [if_neg hi]
      by_cases hj : i < m + 1
      · simp [hj, show ¬ i = j by omega]
      · simp [hj]
  rw [he] at hs
  exact hs.1
theorem Row.congr {base g m : Nat} {f f' : Nat → Bool} {w : World} (h : Row base g m f w) (he : ∀ j, j ≤ m → f j = f' j) : Row base g m f' w := by
  have : ((List.range (m + 1)).map fun x => Value.bool (f x)) = (List.range (m + 1)).map fun x => .bool (f' x) := by
    apply List.map_congr_left
    intro x hx
    rw [he x (by simp at hx; omega)]
  unfold Row at h ⊢
  rw [← this]
  exact h
theorem Row.kept {base g g' m : Nat} {f : Nat → Bool} {w w' : World} (h : Row base g m f w) (hg : w.grownBy w' (some g')) (hne : g ≠ g') : Row base g m f w' :=
  World.ownsRow.kept h hg (Or.inr (by simp [Value.ownBlock]; exact hne))
theorem Row.lt {base g m : Nat} {f : Nat → Bool} {w : World} (h : Row base g m f w) : base ≤ g ∧ g < w.heap.size := World.ownsRow.lt h g rfl

theorem grown_refl (w : World) (row : Option Nat) : w.grownBy w row := ⟨rfl, rfl, rfl, Nat.le_refl _, fun _ _ _ => rfl⟩
theorem grown_trans {a b c : World} {row : Option Nat} (h : a.grownBy b row) (k : b.grownBy c row) : a.grownBy c row :=
  ⟨k.os.trans h.os, k.tape.trans h.tape, k.output.trans h.output, Nat.le_trans h.size k.size, fun i hi hr => (k.block i (Nat.lt_of_lt_of_le hi h.size) hr).trans (h.block i hi hr)⟩

end Go.Proofs.Qxb6602370a
