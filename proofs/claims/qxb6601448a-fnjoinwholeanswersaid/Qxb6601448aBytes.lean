/- The walks of addB, bytesOfStrs, bytesOfWords, bytesOfNested, seqAt, peersAt. -/
import Derived.Test.Qxb6601448aProg
import Derived.Test.Qxb6601448aBase
import Derived.WalkLawsBesides
namespace Go.Proofs.Qxb6601448a
open Go.RowKit
set_option linter.unusedVariables false

theorem addB_any (x y : Int) (w : World) : Calls Try.prog 9 #[.int .i64 x, .int .i64 y] w fun e w' => (∃ z, e = .returned (.int .i64 z)) ∧ w' = w := by
  by_cases h1 : 1048576 < x
  · go_enter Try.func9, Try.ntmps9
    go_wp2
    go_ret
    exact ⟨⟨_, rfl⟩, rfl⟩
  by_cases h2 : 1048576 < y
  · go_enter Try.func9, Try.ntmps9
    go_wp2
    go_ret
    exact ⟨⟨_, rfl⟩, rfl⟩
  · go_enter Try.func9, Try.ntmps9
    go_wp2
    all_goals go_ret
    all_goals exact ⟨⟨_, rfl⟩, rfl⟩

set_option maxHeartbeats 400000 in
theorem bytesOfStrs_any (v : Value) (ss : List ByteArray) (w : World) {lo hi : Nat} (h : StrsAt lo hi w v ss) : Calls Try.prog 41 #[v] w fun e w' => (∃ z, e = .returned (.int .i64 z)) ∧ w' = w := by
  rcases h.open with ⟨ao, cap, rfl, rfl, hn⟩ | ⟨b, off, cap, hbh, hbl, rfl, hp, hcap, hb, hc⟩
  · go_enter Try.func41, Try.ntmps41
    go_wp2
    refine wp_loop_rounds 1 ?_
    rw [rounds_succ]
    go_wp2
    go_ret
    exact ⟨⟨_, rfl⟩, rfl⟩
  · generalize hlen : ss.length = len at *
    clear hlen
    go_enter Try.func41, Try.ntmps41
    go_wp2
    go_loop [3, 4] (fun n i => ∃ k : Nat, k ≤ len ∧ i = .int .i64 k ∧ ∃ z, n = .int .i64 z) (fun _ i => len - (intOf i).toNat)
    case atStart => exact ⟨0, Nat.zero_le _, rfl, _, rfl⟩
    case round =>
      obtain ⟨k, hk, rfl, z, rfl⟩ := hrel
      by_cases hlt : k < len
      · have hcell := hc k hlt
        clear hc
        go_wp2_with (go_at_call 9; refine (addB_any _ _ _).mono ?_; rintro e w' ⟨⟨z, rfl⟩, rfl⟩)
        · go_ret
          exact ⟨⟨_, rfl⟩, rfl⟩
        · go_round
          case rel => exact ⟨k + 1, by omega, by go_num, _, rfl⟩
          case measure => simp [intOf]; omega
      · go_wp2
        go_ret
        exact ⟨⟨_, rfl⟩, rfl⟩

theorem bytesOfWords_any (ao : Option Addr) (n cap : Nat) (w : World) (hn : n * 8 ≤ 140737488351232) : Calls Try.prog 42 #[.slice ao n cap] w fun e w' => (∃ z, e = .returned (.int .i64 z)) ∧ w' = w := by
  go_enter Try.func42, Try.ntmps42
  go_wp2
  all_goals go_ret
  all_goals exact ⟨⟨_, rfl⟩, rfl⟩

set_option maxHeartbeats 400000 in
theorem bytesOfNested_any (v : Value) (sss : List (List ByteArray)) (w : World) {lo hi : Nat} (h : NestAt lo hi w v sss) : Calls Try.prog 43 #[v] w fun e w' => (∃ z, e = .returned (.int .i64 z)) ∧ w' = w := by
  obtain ⟨vs, h1, h2⟩ := h
  rcases h1.open with ⟨ao, cap, rfl, rfl, hn⟩ | ⟨b, off, cap, hbh, hbl, rfl, hp, hcap, hb, hc⟩
  · go_enter Try.func43, Try.ntmps43
    go_wp2
    refine wp_loop_rounds 1 ?_
    rw [rounds_succ]
    go_wp2
    go_ret
    exact ⟨⟨_, rfl⟩, rfl⟩
  · have h3 := h2.2
    clear h1 h2
    generalize hlen : vs.length = len at *
    clear hlen
    go_enter Try.func43, Try.ntmps43
    go_wp2
    go_loop [3, 4] (fun n i => ∃ k : Nat, k ≤ len ∧ i = .int .i64 k ∧ ∃ z, n = .int .i64 z) (fun _ i => len - (intOf i).toNat)
    case atStart => exact ⟨0, Nat.zero_le _, rfl, _, rfl⟩
    case round =>
      obtain ⟨k, hk, rfl, z, rfl⟩ := hrel
      by_cases hlt : k < len
      · have hcell := hc k hlt
        have hst := h3 k hlt
        clear hc h3
        generalize vs.getD k undef = u at hcell hst
        go_wp2_with (first | (go_at_call 41; refine (bytesOfStrs_any _ _ _ hst).mono ?_; rintro e w' ⟨⟨z, rfl⟩, rfl⟩) | (go_at_call 9; refine (addB_any _ _ _).mono ?_; rintro e w' ⟨⟨z, rfl⟩, rfl⟩))
        · go_ret
          exact ⟨⟨_, rfl⟩, rfl⟩
        · go_round
          case rel => exact ⟨k + 1, by omega, by go_num, _, rfl⟩
          case measure => simp [intOf]; omega
      · go_wp2
        go_ret
        exact ⟨⟨_, rfl⟩, rfl⟩

theorem seqAt_any (v : Value) (zs : List Int) (k : Nat) (w : World) {lo hi : Nat} (h : WordsAt lo hi w v zs) : Calls Try.prog 52 #[v, .int .i64 k] w fun e w' => e = .returned (.int .u64 (zs.getD k 0)) ∧ w' = w := by
  rcases h.open with ⟨ao, cap, rfl, rfl, hn⟩ | ⟨b, off, cap, hbh, hbl, rfl, hp, hcap, hb, hc⟩
  · go_enter Try.func52, Try.ntmps52
    go_wp2
    go_ret
    exact ⟨by simp, rfl⟩
  · by_cases hlt : k < zs.length
    · have hcell := hc k hlt
      clear hc
      go_enter Try.func52, Try.ntmps52
      go_wp2
      go_ret
      exact ⟨by simp [List.getD, hlt], rfl⟩
    · have hz : zs.getD k 0 = 0 := by simp [List.getD, Nat.le_of_not_lt hlt]
      rw [hz]
      clear hz hc
      go_enter Try.func52, Try.ntmps52
      go_wp2
      go_ret
      exact ⟨rfl, rfl⟩

theorem peersAt_any (v : Value) (vs : List Value) (k : Nat) (w : World) {lo hi : Nat} (h : RowAt 24 lo hi w v vs) (hs : ∀ i, i < vs.length → ∃ ao n cap, vs.getD i undef = .slice ao n cap) : Calls Try.prog 53 #[v, .int .i64 k] w fun e w' => e = .returned (vs.getD k (.slice none 0 0)) ∧ w' = w := by
  rcases h.open with ⟨ao, cap, rfl, rfl, hn⟩ | ⟨b, off, cap, hbh, hbl, rfl, hp, hcap, hb, hc⟩
  · go_enter Try.func53, Try.ntmps53
    go_wp2
    go_ret
    exact ⟨by simp, rfl⟩
  · by_cases hlt : k < vs.length
    · have hcell := hc k hlt
      obtain ⟨ao, n, cp, hsl⟩ := hs k hlt
      have hz : vs.getD k (.slice none 0 0) = .slice ao n cp := by
        rw [← hsl]; simp [List.getD, hlt]
      rw [hz]
      rw [hsl] at hcell
      clear hc hs hz hsl
      go_enter Try.func53, Try.ntmps53
      go_wp2
      go_ret
      exact ⟨rfl, rfl⟩
    · have hz : vs.getD k (.slice none 0 0) = .slice none 0 0 := by simp [List.getD, Nat.le_of_not_lt hlt]
      rw [hz]
      clear hz hc hs
      go_enter Try.func53, Try.ntmps53
      go_wp2
      go_ret
      exact ⟨rfl, rfl⟩

end Go.Proofs.Qxb6601448a
