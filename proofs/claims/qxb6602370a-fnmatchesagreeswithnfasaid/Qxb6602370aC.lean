/- The walk of Rule.matches (11). -/
import Derived.Test.Qxb6602370aB
import Derived.Deep.QuietTactic
namespace Go.Proofs.Qxb6602370a
open Go.RowKit
set_option linter.unusedVariables false

theorem core_size (s : ByteArray) : (coreOf s).size ≤ s.size := by
  unfold coreOf
  split
  · rw [ByteArray.size_extract]; omega
  · exact Nat.le_refl _

/-- The two bytes are compared. -/
theorem byt_same {s t : ByteArray} {j k : Nat} (h : j < s.size) (h' : k < t.size) (e : byt s j = byt t k) : (((s[j].toNat : Nat) : Int) == ((t[k].toNat : Nat) : Int)) = true := by
  rw [byt_test h, byt_eq h']
  simpa using e
theorem byt_other {s t : ByteArray} {j k : Nat} (h : j < s.size) (h' : k < t.size) (e : byt s j ≠ byt t k) : (((s[j].toNat : Nat) : Int) == ((t[k].toNat : Nat) : Int)) = false := by
  rw [byt_test h, byt_eq h']
  simpa using e

theorem back_less {n m r p s : Nat} (h : r < n) (hp : p ≤ m) (hs : s < p) : (n - (r + 1)) * (m + 2) + (m - (s + 1)) < (n - r) * (m + 2) + (m - p) := by
  obtain ⟨d, hd⟩ : ∃ d, n - r = d + 1 := ⟨n - r - 1, by omega⟩
  rw [hd, show n - (r + 1) = d by omega, Nat.add_mul]
  omega
theorem star_less {n m r r' p : Nat} (h : r ≤ r') (hp : p < m) : (n - r') * (m + 2) + (m - (p + 1)) < (n - r) * (m + 2) + (m - p) := by
  have := Nat.mul_le_mul_right (m + 2) (show n - r' ≤ n - r by omega)
  omega

theorem below_drewN {B : Nat} {a w : World} (h : Below B a w) (n : Nat) : Below B a (w.drewN n) := ⟨h.os, h.tape, h.output, h.size, h.block⟩

/-- The call returned whether A. -/
def Answers (A : Prop) (e : Ending) : Prop := ∃ b, e = .returned (.bool b) ∧ (b = true ↔ A)
theorem Answers.yes {A : Prop} (h : A) : Answers A (.returned (.bool true)) := ⟨true, rfl, by simpa using h⟩
theorem Answers.no {A : Prop} (h : ¬ A) : Answers A (.returned (.bool false)) := ⟨false, rfl, by simpa using h⟩

set_option maxRecDepth 100000 in
set_option maxHeartbeats 1000000 in
theorem matches_any (a : Bool) (s t : ByteArray) (hs : s.size ≤ 4096) (ht : t.size ≤ 4096) (w : World) :
    Calls Try.prog 11 #[.agg #[.bool a, .string s], .string t] w fun e w' => Answers (Acc (anchOf s) (byt (coreOf s)) (byt t) (coreOf s).size t.size 0 0) e ∧ Below w.heap.size w w' := by
  have hcs := core_size s
  have hcut := cut_any s hs
  have HCUT := hide hcut
  clear hcut
  generalize coreOf s = c at *
  generalize anchOf s = anch at *
  have hc : c.size ≤ 4096 := by omega
  clear hcs hs
  go_enter Try.func11, Try.ntmps11
  go_wp2_with (go_at_call 13; refine (unhide HCUT _).mono ?_; rintro e w' ⟨rfl, rfl⟩)
  have hB : Below w.heap.size w (w.alloc (.cells #[.bool a, .string s] 25)) := (Below.refl _ _).alloc (Nat.le_refl _) _
  have HB := hide hB
  clear hB HCUT
  go_loopw [7, 8, 9, 10] (fun vp vt vs vr wr => ∃ p t0 r : Nat, ∃ star : Int, vp = .int .i64 p ∧ vt = .int .i64 t0 ∧ vs = .int .i64 star ∧ vr = .int .i64 r ∧ Grd anch (byt c) (byt t) c.size t.size p t0 star r ∧ Below w.heap.size w wr) (fun vp _ _ vr _ => (t.size - (intOf vr).toNat) * (c.size + 2) + (c.size - (intOf vp).toNat))
  case atStart =>
    exact ⟨0, 0, 0, -1, rfl, rfl, rfl, rfl, Grd.start, unhide HB⟩
  case round =>
    obtain ⟨p, t0, r, star, rfl, rfl, rfl, rfl, hg, hbl⟩ := hrel
    have HB1 := hide hbl
    clear hbl
    have HG := hide hg
    have hp := hg.1
    have ht0 := hg.2.1
    have hr := hg.2.2.1
    have hs1 := hg.2.2.2.1
    have hs2 := hg.2.2.2.2.1
    clear hg
    by_cases hpm : p = c.size
    · by_cases hyes : anch = false ∨ t0 = t.size
      · have HA := hide ((unhide HG).yes hpm hyes)
        have hpm' : (p : Int) = (c.size : Int) := by omega
        rcases hyes with rfl | ht1
        · clear hpm
          go_wp2
          go_ret
          exact ⟨.yes (unhide HA), unhide HB1⟩
        · have ht2 : (t0 : Int) = (t.size : Int) := by omega
          clear hpm ht1
          cases anch with
          | true =>
            go_wp2
            go_ret
            exact ⟨.yes (unhide HA), unhide HB1⟩
          | false =>
            go_wp2
            go_ret
            exact ⟨.yes (unhide HA), unhide HB1⟩
      · have hanch : anch = true := by cases anch <;> simp_all
        have hne : t0 ≠ t.size := fun e => hyes (Or.inr e)
        subst hanch
        have hlt : t0 < t.size := by omega
        have hpm' : (p : Int) = (c.size : Int) := by omega
        have HK : Hid (Stuck true (byt c) (byt t) c.size t.size p t0) := hide (Or.inl ⟨hpm, rfl, hne⟩)
        clear hpm hyes hne
        by_cases hst : 0 ≤ star
        · by_cases hrn : r < t.size
          · have HST := hide hst
            clear hst
            obtain ⟨st, rfl⟩ : ∃ st : Nat, star = st := ⟨star.toNat, by have := unhide HST; omega⟩
            go_wp2_with (go_quiet (fail))
            go_round
            case rel => exact ⟨st + 1, r + 1, r + 1, st, by go_num, by go_num, rfl, by go_num, by simpa using (unhide HG).back (unhide HK) (by omega) hrn, below_drewN (unhide HB1) _⟩
            case measure =>
              have hsp : st < p := by have := (unhide HG).2.2.2.2.2; omega
              have hm := back_less hrn hp hsp
              simp only [intOf]
              rw [show ((r : Int) + 1).toNat = r + 1 by omega, show ((st : Int) + 1).toNat = st + 1 by omega, Int.toNat_natCast, Int.toNat_natCast]
              exact hm
          · exfalso
            omega
        · go_wp2_with (go_quiet (fail))
          go_ret
          exact ⟨.no ((unhide HG).no (unhide HK) (Or.inl (by omega))), below_drewN (unhide HB1) _⟩
    · have hlt : p < c.size := by omega
      by_cases hc42 : byt c p = 42
      · have htst := byt_is hlt hc42
        have HC := hide hc42
        clear hc42 hpm
        go_wp2
        go_round
        case rel => exact ⟨p + 1, t0, t0, p, by go_num, rfl, rfl, rfl, (unhide HG).star hlt (unhide HC), unhide HB1⟩
        case measure =>
          have hm := star_less (n := t.size) hr hlt
          simp only [intOf]
          rw [show ((p : Int) + 1).toNat = p + 1 by omega, Int.toNat_natCast, Int.toNat_natCast, Int.toNat_natCast]
          exact hm
      · have htst := byt_isnt hlt hc42
        have HC := hide hc42
        clear hc42 hpm
        by_cases htn : t0 < t.size
        · by_cases heq : byt c p = byt t t0
          · have hd := byt_same hlt htn heq
            have HE := hide heq
            clear heq
            go_wp2_with (go_quiet (fail))
            go_round
            case rel => exact ⟨p + 1, t0 + 1, r, star, by go_num, by go_num, rfl, rfl, (unhide HG).lit hlt (unhide HC) htn (unhide HE), below_drewN (unhide HB1) _⟩
            case measure =>
              have hm := star_less (n := t.size) (Nat.le_refl r) hlt
              simp only [intOf]
              rw [show ((p : Int) + 1).toNat = p + 1 by omega, Int.toNat_natCast, Int.toNat_natCast]
              exact hm
          · have hd := byt_other hlt htn heq
            have HE := hide heq
            clear heq
            have HK : Hid (Stuck anch (byt c) (byt t) c.size t.size p t0) := hide (Or.inr ⟨hlt, unhide HC, fun h => unhide HE h.2⟩)
            by_cases hst : 0 ≤ star
            · by_cases hrn : r < t.size
              · have HST := hide hst
                clear hst
                obtain ⟨st, rfl⟩ : ∃ st : Nat, star = st := ⟨star.toNat, by have := unhide HST; omega⟩
                go_wp2_with (go_quiet (fail))
                go_round
                case rel => exact ⟨st + 1, r + 1, r + 1, st, by go_num, by go_num, rfl, by go_num, by simpa using (unhide HG).back (unhide HK) (by omega) hrn, below_drewN (unhide HB1) _⟩
                case measure =>
                  have hsp : st < p := by have := (unhide HG).2.2.2.2.2; omega
                  have hm := back_less hrn hp hsp
                  simp only [intOf]
                  rw [show ((r : Int) + 1).toNat = r + 1 by omega, show ((st : Int) + 1).toNat = st + 1 by omega, Int.toNat_natCast, Int.toNat_natCast]
                  exact hm
              · exfalso
                omega
            · go_wp2_with (go_quiet (fail))
              go_ret
              exact ⟨.no ((unhide HG).no (unhide HK) (Or.inl (by omega))), below_drewN (unhide HB1) _⟩
        · have hge : ¬ (t0 < t.size) := htn
          have HK : Hid (Stuck anch (byt c) (byt t) c.size t.size p t0) := hide (Or.inr ⟨hlt, unhide HC, fun h => htn h.1⟩)
          by_cases hst : 0 ≤ star
          · by_cases hrn : r < t.size
            · have HST := hide hst
              clear hst
              obtain ⟨st, rfl⟩ : ∃ st : Nat, star = st := ⟨star.toNat, by have := unhide HST; omega⟩
              go_wp2_with (go_quiet (fail))
              go_round
              case rel => exact ⟨st + 1, r + 1, r + 1, st, by go_num, by go_num, rfl, by go_num, by simpa using (unhide HG).back (unhide HK) (by omega) hrn, below_drewN (unhide HB1) _⟩
              case measure =>
                have hsp : st < p := by have := (unhide HG).2.2.2.2.2; omega
                have hm := back_less hrn hp hsp
                simp only [intOf]
                rw [show ((r : Int) + 1).toNat = r + 1 by omega, show ((st : Int) + 1).toNat = st + 1 by omega, Int.toNat_natCast, Int.toNat_natCast]
                exact hm
            · go_wp2_with (go_quiet (fail))
              go_ret
              exact ⟨.no ((unhide HG).no (unhide HK) (Or.inr (by omega))), below_drewN (unhide HB1) _⟩
          · go_wp2_with (go_quiet (fail))
            go_ret
            exact ⟨.no ((unhide HG).no (unhide HK) (Or.inl (by omega))), below_drewN (unhide HB1) _⟩
end Go.Proofs.Qxb6602370a
