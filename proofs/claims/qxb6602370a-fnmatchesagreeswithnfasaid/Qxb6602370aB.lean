/- The walk of zzStarClose (12). -/
import Derived.Test.Qxb6602370aA
namespace Go.Proofs.Qxb6602370a
open Go.RowKit
set_option linter.unusedVariables false

/-- What the closing does: closed below k, and the question is the same. -/
def Closing (s : ByteArray) (f f' : Nat → Bool) (k : Nat) : Prop :=
  Clos (byt s) f' k ∧ ∀ (anch : Bool) (T : Nat → UInt8) (n i : Nat), Nfa anch (byt s) T s.size n f i → Nfa anch (byt s) T s.size n f' i

theorem close_any (s : ByteArray) (hs : s.size ≤ 4096) (base g : Nat) (f : Nat → Bool) (w : World) (hrow : Row base g s.size f w) :
    Calls Try.prog 12 #[.string s, .slice (some ⟨g, 0, none⟩) (s.size + 1 : Nat) (s.size + 1 : Nat)] w fun e w' => e = .returned (.tuple #[]) ∧ ∃ f', Row base g s.size f' w' ∧ Closing s f f' s.size ∧ w.grownBy w' (some g) := by
  have HR := hide hrow
  clear hrow
  generalize hm : s.size = m at *
  have HM := hide hm
  go_enter Try.func12, Try.ntmps12
  go_wp2
  go_loopw [4] (fun i wr => ∃ k : Nat, k ≤ m ∧ i = .int .i64 k ∧ ∃ f', Row base g m f' wr ∧ Closing s f f' k ∧ w.grownBy wr (some g)) (fun i _ => m - (intOf i).toNat)
  case atStart =>
    exact ⟨0, Nat.zero_le _, rfl, f, unhide HR, ⟨fun j hj => absurd hj (by omega), fun _ _ _ _ h => h⟩, grown_refl _ _⟩
  case round =>
    obtain ⟨k, hk, rfl, f', hrow, hcl, hgr⟩ := hrel
    have H1 := hide hrow
    have H2 := hide hcl
    have H3 := hide hgr
    have hcell := hrow.cell hk
    clear hrow hcl hgr
    by_cases hlt : k < m
    · generalize hq : f' k = q at hcell
      have HQ := hide hq
      clear hq
      cases q with
      | false =>
        go_wp2
        go_round
        case rel =>
          refine ⟨k + 1, by omega, by go_num, f', unhide H1, ⟨(unhide H2).1.pass (Or.inl (unhide HQ)), (unhide H2).2⟩, unhide H3⟩
        case measure => simp [intOf]; omega
      | true =>
        have hlt' : k < s.size := by omega
        by_cases hst : byt s k = 42
        · have ht := byt_is hlt' hst
          have HS := hide hst
          have hthaw := (unhide H1).thaw (k + 1)
          have HP := hide ((unhide H1).put (k + 1) true)
          have hcell1 := (unhide H1).cell (j := k + 1) (by omega)
          generalize f' (k + 1) = q1 at hcell1
          clear hst
          go_wp2
          go_round
          case rel =>
            refine ⟨k + 1, by omega, by go_num, _, (unhide HP).1, ⟨(unhide H2).1.put rfl, fun anch T n i h => Nfa.close ((unhide H2).2 anch T n i h) hlt' (unhide HQ) (unhide HS) rfl⟩, grown_trans (unhide H3) (unhide HP).2⟩
          case measure => simp [intOf]; omega
        · have ht := byt_isnt hlt' hst
          have HS := hide hst
          clear hst
          go_wp2
          go_round
          case rel =>
            refine ⟨k + 1, by omega, by go_num, f', unhide H1, ⟨(unhide H2).1.pass (Or.inr (unhide HS)), (unhide H2).2⟩, unhide H3⟩
          case measure => simp [intOf]; omega
    · obtain rfl : k = m := by omega
      go_wp2
      go_end0
      exact ⟨rfl, f', unhide H1, unhide H2, unhide H3⟩
end Go.Proofs.Qxb6602370a
