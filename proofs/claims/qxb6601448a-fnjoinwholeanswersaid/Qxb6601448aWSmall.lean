/- The model's small helpers: lastIdx (51), sameStrs (54), hasMEntry (56), hasFEntry (57). -/
import Derived.Test.Qxb6601448aStr
import Derived.BigQuiet
namespace Go.Proofs.Qxb6601448a
open Go.RowKit
set_option linter.unusedVariables false

/-- The last place of x, or -1. -/
def LastAt (ss : List ByteArray) (k : Nat) (x : ByteArray) (r : Int) : Prop :=
  (r = -1 ∧ ∀ j, j < k → ((ss.getD j ByteArray.empty).toList == x.toList) = false) ∨
  ∃ i : Nat, r = i ∧ i < k ∧ ((ss.getD i ByteArray.empty).toList == x.toList) = true ∧ ∀ j, i < j → j < k → ((ss.getD j ByteArray.empty).toList == x.toList) = false

theorem LastAt.miss {ss : List ByteArray} {k : Nat} {x : ByteArray} {r : Int} (h : LastAt ss k x r) (hk : ((ss.getD k ByteArray.empty).toList == x.toList) = false) : LastAt ss (k + 1) x r := by
  rcases h with ⟨h1, h2⟩ | ⟨i, h1, h2, h3, h4⟩
  · refine Or.inl ⟨h1, fun j hj => ?_⟩
    by_cases hjk : j < k
    · exact h2 j hjk
    · obtain rfl : j = k := by omega
      exact hk
  · refine Or.inr ⟨i, h1, by omega, h3, fun j hij hj => ?_⟩
    by_cases hjk : j < k
    · exact h4 j hij hjk
    · obtain rfl : j = k := by omega
      exact hk
theorem LastAt.hit {ss : List ByteArray} {k : Nat} {x : ByteArray} (hk : ((ss.getD k ByteArray.empty).toList == x.toList) = true) : LastAt ss (k + 1) x k :=
  Or.inr ⟨k, rfl, by omega, hk, fun j h1 h2 => by omega⟩

set_option maxHeartbeats 400000 in
theorem lastIdx_any (v : Value) (ss : List ByteArray) (x : ByteArray) (w : World) {lo hi : Nat} (h : StrsAt lo hi w v ss) : Calls Try.prog 51 #[v, .string x] w fun e w' => (∃ r, e = .returned (.int .i64 r) ∧ LastAt ss ss.length x r) ∧ w' = w := by
  rcases h.open with ⟨ao, cap, rfl, rfl, hn⟩ | ⟨b, off, cap, hbh, hbl, rfl, hp, hcap, hb, hc⟩
  · go_enter Try.func51, Try.ntmps51
    go_wp2
    refine wp_loop_rounds 1 ?_
    rw [rounds_succ]
    go_wp2
    go_ret
    exact ⟨⟨-1, rfl, Or.inl ⟨rfl, fun j hj => absurd hj (Nat.not_lt_zero _)⟩⟩, rfl⟩
  · clear h
    obtain ⟨len, hlen⟩ : ∃ len, len = ss.length := ⟨_, rfl⟩
    rw [← hlen] at hp hcap hb hc ⊢
    clear hlen
    go_enter Try.func51, Try.ntmps51
    go_wp2
    go_loop [5, 6] (fun vr vi => ∃ (k : Nat) (r : Int), k ≤ len ∧ vi = .int .i64 k ∧ vr = .int .i64 r ∧ LastAt ss k x r) (fun _ vi => len - (intOf vi).toNat)
    case atStart => exact ⟨0, -1, Nat.zero_le _, rfl, rfl, Or.inl ⟨rfl, fun j hj => absurd hj (Nat.not_lt_zero _)⟩⟩
    case round =>
      obtain ⟨k, r, hk, rfl, rfl, hpre⟩ := hrel
      by_cases hlt : k < len
      · have hcell := hc k hlt
        have HM := hide (fun e => hpre.miss e)
        have HT : Hid (((ss.getD k ByteArray.empty).toList == x.toList) = true → LastAt ss (k + 1) x k) := LastAt.hit
        clear hc hpre
        generalize ss.getD k ByteArray.empty = s at hcell HM HT
        go_wp2
        · go_round
          case rel => exact ⟨k + 1, k, by omega, by go_num, rfl, unhide HT (by assumption)⟩
          case measure => simp [intOf]; omega
        · go_round
          case rel => exact ⟨k + 1, r, by omega, by go_num, rfl, unhide HM (by assumption)⟩
          case measure => simp [intOf]; omega
      · obtain rfl : k = len := by omega
        have HP := hide hpre
        clear hpre
        go_wp2
        go_ret
        exact ⟨⟨r, rfl, unhide HP⟩, rfl⟩

set_option maxHeartbeats 400000 in
theorem sameStrs_true (v u : Value) (ss : List ByteArray) (w : World) {lo hi lo' hi' : Nat} (h : StrsAt lo hi w v ss) (g : StrsAt lo' hi' w u ss) : Calls Try.prog 54 #[v, u] w fun e w' => e = .returned (.bool true) ∧ Below w.heap.size w w' := by
  rcases h.open with ⟨ao, cap, rfl, rfl, hn⟩ | ⟨b, off, cap, hbh, hbl, rfl, hp, hcap, hb, hc⟩
  · obtain ⟨a2, c2, rfl⟩ := g.shape
    clear h g
    go_enter Try.func54, Try.ntmps54
    go_wp2
    refine wp_loop_rounds 1 ?_
    rw [rounds_succ]
    go_wp2
    go_ret
    exact ⟨rfl, Below.refl _ _⟩
  · rcases g.open with ⟨_, _, _, rfl, _⟩ | ⟨b2, off2, cap2, hbh2, hbl2, rfl, hp2, hcap2, hb2, hc2⟩
    · simp at hp
    clear h g
    obtain ⟨len, hlen⟩ : ∃ len, len = ss.length := ⟨_, rfl⟩
    rw [← hlen] at hp hcap hb hc hcap2 hc2 ⊢
    clear hlen hp2 hb2
    go_enter Try.func54, Try.ntmps54
    go_wp2
    go_loopw [5] (fun vi wr => ∃ k : Nat, k ≤ len ∧ vi = .int .i64 k ∧ Below w.heap.size w wr ∧ wr.heap = w.heap) (fun vi _ => len - (intOf vi).toNat)
    case atStart => exact ⟨0, Nat.zero_le _, rfl, Below.refl _ _, rfl⟩
    case round =>
      obtain ⟨k, hk, rfl, hbe, hhp⟩ := hrel
      by_cases hlt : k < len
      · have hcell : wr.cell? ⟨b, off + k, none⟩ = some (.string (ss.getD k ByteArray.empty)) := (World.cell?_of_block (by rw [hhp])).trans (hc k hlt)
        have hcell2 : wr.cell? ⟨b2, off2 + k, none⟩ = some (.string (ss.getD k ByteArray.empty)) := (World.cell?_of_block (by rw [hhp])).trans (hc2 k hlt)
        have HB := hide hbe
        have HH := hide hhp
        clear hc hc2 hbe hhp
        generalize ss.getD k ByteArray.empty = s at hcell hcell2
        go_wp2_with fail
        go_quiet (fail)
        go_wp2
        go_roundw
        case rel => exact ⟨k + 1, by omega, by go_num, below_drewN (unhide HB) _, unhide HH⟩
        case measure => simp [intOf]; omega
      · obtain rfl : k = len := by omega
        have HB := hide hbe
        clear hbe hhp hc hc2
        go_wp2
        go_ret
        exact ⟨rfl, unhide HB⟩

end Go.Proofs.Qxb6601448a
