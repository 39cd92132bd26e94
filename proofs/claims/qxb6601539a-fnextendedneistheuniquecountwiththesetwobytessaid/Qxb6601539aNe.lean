/- extendedNe: two bytes as a count. -/
import Derived.Test.Qxb6601539aProg
import Derived.WalkKit
import Derived.WalkLawsBesides
import Derived.Laws.BitsAllLaws
import Derived.BigQuiet
import Derived.Deep.QuietTactic
namespace Go.Proofs.Qxb6601539a
open Go.RowKit
set_option linter.unusedVariables false

theorem grown_drewN {W w : World} (k : Nat) (h : Grown W w) : Grown W (w.drewN k) := h

/-- What extendedNe gives. -/
def ne (x y : Int) : Int := if x * 256 + y = 0 then 65536 else x * 256 + y

theorem or_two (x y : Int) (h1 : 0 ≤ x) (h2 : x ≤ 255) (h3 : 0 ≤ y) (h4 : y ≤ 255) : bits .or .i64 (x * 256) y = x * 256 + y := by
  obtain ⟨a, rfl⟩ := Int.eq_ofNat_of_zero_le h1
  obtain ⟨b, rfl⟩ := Int.eq_ofNat_of_zero_le h3
  have e : ((a : Int) * 256) = ((a * 256 : Nat) : Int) := by omega
  rw [e]
  show IntKind.i64.wrap ((BitVec.ofInt 64 ((a * 256 : Nat) : Int) ||| BitVec.ofInt 64 (b : Int)).toNat : Int) = _
  rw [BitVec.toNat_or, ofInt_u64 _ (by omega), ofInt_u64 _ (by omega), nat_join8 (a * 256) b (by omega) (by omega), IntKind.wrap_i64]
  omega

theorem ext10 (b off n cap : Nat) (x y : Int) (w : World) (h1 : 0 ≤ x) (h2 : x ≤ 255) (h3 : 0 ≤ y) (h4 : y ≤ 255) (hn : 2 ≤ n) (c0 : w.cell? ⟨b, off, none⟩ = some (.int .u8 x)) (c1 : w.cell? ⟨b, off + 1, none⟩ = some (.int .u8 y)) :
    Calls Try.prog 10 #[.slice (some ⟨b, off, none⟩) n cap] w fun e w' => e = .returned (.int .i64 (ne x y)) ∧ ∃ k, w' = w.drewN k := by
  have i0 : (0 : Int) < (n : Int) := by omega
  have i1 : (1 : Int) < (n : Int) := by omega
  go_enter Try.func10, Try.ntmps10
  go_wp2
  go_quiet (fail)
  go_wp2
  · rename_i hz
    go_ret
    refine ⟨?_, _, rfl⟩
    rw [or_two x y h1 h2 h3 h4] at hz
    have : ne x y = 65536 := by simp only [ne]; rw [if_pos (by simpa using hz)]
    rw [this]
    rfl
  · rename_i hz
    go_ret
    refine ⟨?_, _, rfl⟩
    rw [or_two x y h1 h2 h3 h4] at hz
    have : ne x y = bits .or .i64 (x * 256) y := by rw [or_two x y h1 h2 h3 h4]; simp only [ne]; rw [if_neg (by simpa using hz)]
    rw [this]
    rfl

theorem ext9 (b off n cap : Nat) (x y : Int) (w : World) (h1 : 0 ≤ x) (h2 : x ≤ 255) (h3 : 0 ≤ y) (h4 : y ≤ 255) (hn : 2 ≤ n) (c0 : w.cell? ⟨b, off, none⟩ = some (.int .u8 x)) (c1 : w.cell? ⟨b, off + 1, none⟩ = some (.int .u8 y)) :
    Calls Try.prog 9 #[.slice (some ⟨b, off, none⟩) n cap] w fun e w' => e = .returned (.int .i64 (ne x y)) ∧ ∃ k, w' = w.drewN k := by
  go_enter Try.func9, Try.ntmps9
  go_wp2_with fail
  refine (ext10 b off n cap x y w h1 h2 h3 h4 hn c0 c1).mono ?_
  rintro e w' ⟨rfl, k, rfl⟩
  go_wp2
  go_ret
  exact ⟨rfl, k, rfl⟩

end Go.Proofs.Qxb6601539a
