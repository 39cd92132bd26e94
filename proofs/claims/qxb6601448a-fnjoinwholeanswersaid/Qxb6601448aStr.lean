/- Searches in slices of strings: hasStr, anyIn, slices.Index, slices.Contains, gone. -/
import Derived.Test.Qxb6601448aClone
namespace Go.Proofs.Qxb6601448a
open Go.RowKit
set_option linter.unusedVariables false

/-- Is x among them? -/
def memS (ss : List ByteArray) (x : ByteArray) : Bool := ss.any (fun s => s.toList == x.toList)

theorem memS_hit {ss : List ByteArray} {x : ByteArray} {k : Nat} (hk : k < ss.length) (h : ((ss.getD k ByteArray.empty).toList == x.toList) = true) : memS ss x = true := by
  unfold memS
  rw [List.any_eq_true]
  exact ⟨ss[k], List.getElem_mem hk, by simpa [List.getD, hk] using h⟩

theorem memS_none {ss : List ByteArray} {x : ByteArray} (h : ∀ j, j < ss.length → ((ss.getD j ByteArray.empty).toList == x.toList) = false) : memS ss x = false := by
  unfold memS
  rw [List.any_eq_false]
  intro s hs
  obtain ⟨j, hj, rfl⟩ := List.getElem_of_mem hs
  have := h j hj
  simp only [List.getD, List.getElem?_eq_getElem hj, Option.getD_some] at this
  simp [this]

set_option maxHeartbeats 400000 in
theorem hasStr_any (v : Value) (ss : List ByteArray) (x : ByteArray) (w : World) {lo hi : Nat} (h : StrsAt lo hi w v ss) : Calls Try.prog 55 #[v, .string x] w fun e w' => e = .returned (.bool (memS ss x)) ∧ w' = w := by
  rcases h.open with ⟨ao, cap, rfl, rfl, hn⟩ | ⟨b, off, cap, hbh, hbl, rfl, hp, hcap, hb, hc⟩
  · go_enter Try.func55, Try.ntmps55
    go_wp2
    refine wp_loop_rounds 1 ?_
    rw [rounds_succ]
    go_wp2
    go_ret
    exact ⟨rfl, rfl⟩
  · have hit : ∀ k, k < ss.length → ((ss.getD k ByteArray.empty).toList == x.toList) = true → memS ss x = true := fun k hk hs => memS_hit hk hs
    have non : (∀ j, j < ss.length → ((ss.getD j ByteArray.empty).toList == x.toList) = false) → memS ss x = false := memS_none
    have HH := hide hit
    have HN := hide non
    clear hit non h
    generalize memS ss x = res at HH HN ⊢
    generalize hlen : ss.length = len at *
    clear hlen
    go_enter Try.func55, Try.ntmps55
    go_wp2
    go_loop [5] (fun i => ∃ k : Nat, k ≤ len ∧ i = .int .i64 k ∧ ∀ j, j < k → ((ss.getD j ByteArray.empty).toList == x.toList) = false) (fun i => len - (intOf i).toNat)
    case atStart => exact ⟨0, Nat.zero_le _, rfl, fun j hj => absurd hj (Nat.not_lt_zero _)⟩
    case round =>
      obtain ⟨k, hk, rfl, hpre⟩ := hrel
      have HP := hide hpre
      clear hpre
      by_cases hlt : k < len
      · have hcell := hc k hlt
        have HK := hide (unhide HH k hlt)
        have HST : Hid (∀ (e : ((ss.getD k ByteArray.empty).toList == x.toList) = false) j, j < k + 1 → ((ss.getD j ByteArray.empty).toList == x.toList) = false) := fun e j hj => by
          by_cases hjk : j < k
          · exact unhide HP j hjk
          · obtain rfl : j = k := by omega
            exact e
        clear hc
        generalize ss.getD k ByteArray.empty = s at hcell HK HST
        go_wp2
        · rename_i h1 _
          go_ret
          exact ⟨by rw [(unhide HK) (by assumption)]; rfl, rfl⟩
        · go_round
          case rel => exact ⟨k + 1, by omega, by go_num, unhide HST (by assumption)⟩
          case measure => simp [intOf]; omega
      · obtain rfl : k = len := by omega
        have HRES := hide (unhide HN (unhide HP))
        go_wp2
        go_ret
        exact ⟨by rw [unhide HRES]; rfl, rfl⟩

set_option maxHeartbeats 400000 in
theorem anyIn_any (v u : Value) (ss ts : List ByteArray) (w : World) {lo hi : Nat} (h : StrsAt lo hi w v ss) (g : StrsAt lo hi w u ts) : Calls Try.prog 38 #[v, u] w fun e w' => e = .returned (.bool (ss.any (memS ts))) ∧ w' = w := by
  rcases h.open with ⟨ao, cap, rfl, rfl, hn⟩ | ⟨b, off, cap, hbh, hbl, rfl, hp, hcap, hb, hc⟩
  · go_enter Try.func38, Try.ntmps38
    go_wp2
    refine wp_loop_rounds 1 ?_
    rw [rounds_succ]
    go_wp2
    go_ret
    exact ⟨rfl, rfl⟩
  · have hit : ∀ k, k < ss.length → memS ts (ss.getD k ByteArray.empty) = true → ss.any (memS ts) = true := fun k hk hs => List.any_eq_true.2 ⟨ss[k], List.getElem_mem hk, by simpa [List.getD, hk] using hs⟩
    have non : (∀ j, j < ss.length → memS ts (ss.getD j ByteArray.empty) = false) → ss.any (memS ts) = false := fun hs => by
      rw [List.any_eq_false]
      intro s hs'
      obtain ⟨j, hj, rfl⟩ := List.getElem_of_mem hs'
      have := hs j hj
      simp only [List.getD, List.getElem?_eq_getElem hj, Option.getD_some] at this
      simp [this]
    have HH := hide hit
    have HN := hide non
    have HG := hide g
    clear hit non h g
    generalize ss.any (memS ts) = res at HH HN ⊢
    generalize hlen : ss.length = len at *
    clear hlen
    go_enter Try.func38, Try.ntmps38
    go_wp2
    go_loop [5] (fun i => ∃ k : Nat, k ≤ len ∧ i = .int .i64 k ∧ ∀ j, j < k → memS ts (ss.getD j ByteArray.empty) = false) (fun i => len - (intOf i).toNat)
    case atStart => exact ⟨0, Nat.zero_le _, rfl, fun j hj => absurd hj (Nat.not_lt_zero _)⟩
    case round =>
      obtain ⟨k, hk, rfl, hpre⟩ := hrel
      have HP := hide hpre
      clear hpre
      by_cases hlt : k < len
      · have hcell := hc k hlt
        have HK := hide (unhide HH k hlt)
        have HST : Hid (∀ (e : memS ts (ss.getD k ByteArray.empty) = false) j, j < k + 1 → memS ts (ss.getD j ByteArray.empty) = false) := fun e j hj => by
          by_cases hjk : j < k
          · exact unhide HP j hjk
          · obtain rfl : j = k := by omega
            exact e
        clear hc
        generalize ss.getD k ByteArray.empty = s at hcell HK HST
        have hcall : Calls Try.prog 55 #[u, .string s] w fun e w' => e = .returned (.bool (memS ts s)) ∧ w' = w := hasStr_any u ts s w (unhide HG)
        generalize memS ts s = q at hcall HK HST
        have HCALL := hide hcall
        clear hcall
        cases q with
        | true =>
          go_wp2_with fail
          refine (unhide HCALL).mono ?_
          rintro e w' ⟨rfl, rfl⟩
          go_wp2
          go_ret
          exact ⟨by rw [(unhide HK) (by simp)]; rfl, rfl⟩
        | false =>
          go_wp2_with fail
          refine (unhide HCALL).mono ?_
          rintro e w' ⟨rfl, rfl⟩
          go_wp2
          go_round
          case rel => exact ⟨k + 1, by omega, by go_num, unhide HST (by simp)⟩
          case measure => simp [intOf]; omega
      · obtain rfl : k = len := by omega
        have HRES := hide (unhide HN (unhide HP))
        go_wp2
        go_ret
        exact ⟨by rw [unhide HRES]; rfl, rfl⟩

/-- slices.Index: the first place, or -1. -/
def idxS (ss : List ByteArray) (x : ByteArray) (r : Int) : Prop := (r = -1 ∧ memS ss x = false) ∨ (0 ≤ r ∧ memS ss x = true)

set_option maxHeartbeats 400000 in
theorem index_any (v : Value) (ss : List ByteArray) (x : ByteArray) (w : World) {lo hi : Nat} (h : StrsAt lo hi w v ss) : Calls Try.prog 66 #[v, .string x] w fun e w' => (∃ r, e = .returned (.int .i64 r) ∧ idxS ss x r) ∧ w' = w := by
  rcases h.open with ⟨ao, cap, rfl, rfl, hn⟩ | ⟨b, off, cap, hbh, hbl, rfl, hp, hcap, hb, hc⟩
  · go_enter Try.func66, Try.ntmps66
    go_wp2
    refine wp_loop_rounds 1 ?_
    rw [rounds_succ]
    go_wp2
    go_ret
    exact ⟨⟨-1, rfl, Or.inl ⟨rfl, rfl⟩⟩, rfl⟩
  · have hit : ∀ k : Nat, k < ss.length → ((ss.getD k ByteArray.empty).toList == x.toList) = true → idxS ss x k := fun k hk hs => Or.inr ⟨by omega, memS_hit hk hs⟩
    have non : (∀ j, j < ss.length → ((ss.getD j ByteArray.empty).toList == x.toList) = false) → idxS ss x (-1) := fun hs => Or.inl ⟨rfl, memS_none hs⟩
    have HH := hide hit
    have HN := hide non
    clear hit non h
    generalize hlen : ss.length = len at *
    clear hlen
    go_enter Try.func66, Try.ntmps66
    go_wp2
    go_loop [8] (fun i => ∃ k : Nat, k ≤ len ∧ i = .int .i64 k ∧ ∀ j, j < k → ((ss.getD j ByteArray.empty).toList == x.toList) = false) (fun i => len - (intOf i).toNat)
    case atStart => exact ⟨0, Nat.zero_le _, rfl, fun j hj => absurd hj (Nat.not_lt_zero _)⟩
    case round =>
      obtain ⟨k, hk, rfl, hpre⟩ := hrel
      have HP := hide hpre
      clear hpre
      by_cases hlt : k < len
      · have hcell := hc k hlt
        have HK := hide (unhide HH k hlt)
        have HST : Hid (∀ (e : ((ss.getD k ByteArray.empty).toList == x.toList) = false) j, j < k + 1 → ((ss.getD j ByteArray.empty).toList == x.toList) = false) := fun e j hj => by
          by_cases hjk : j < k
          · exact unhide HP j hjk
          · obtain rfl : j = k := by omega
            exact e
        clear hc
        generalize ss.getD k ByteArray.empty = s at hcell HK HST
        go_wp2
        · have h1 : (x.toList == s.toList) = true := by assumption
          go_ret
          exact ⟨⟨k, rfl, (unhide HK) (by rw [beq_iff_eq] at h1 ⊢; exact h1.symm)⟩, rfl⟩
        · have h1 : (x.toList == s.toList) = false := by assumption
          go_round
          case rel => exact ⟨k + 1, by omega, by go_num, unhide HST (by rw [beq_eq_false_iff_ne] at h1 ⊢; exact fun e => h1 e.symm)⟩
          case measure => simp [intOf]; omega
      · obtain rfl : k = len := by omega
        have HRES := hide (unhide HN (unhide HP))
        go_wp2
        go_ret
        exact ⟨⟨-1, rfl, unhide HRES⟩, rfl⟩

theorem contains_any (v : Value) (ss : List ByteArray) (x : ByteArray) (w : World) {lo hi : Nat} (h : StrsAt lo hi w v ss) : Calls Try.prog 61 #[v, .string x] w fun e w' => e = .returned (.bool (memS ss x)) ∧ w' = w := by
  go_enter Try.func61, Try.ntmps61
  go_wp2_with fail
  refine (index_any v ss x w h).mono ?_
  rintro e w' ⟨⟨r, rfl, hr⟩, rfl⟩
  rcases hr with ⟨rfl, hm⟩ | ⟨h0, hm⟩
  · have HM := hide hm
    clear hm
    go_wp2
    go_ret
    exact ⟨by rw [unhide HM]; rfl, rfl⟩
  · have HM := hide hm
    clear hm
    go_wp2
    go_ret
    exact ⟨by rw [unhide HM]; simp, rfl⟩

/-- (Site).gone: whatever the name. -/
theorem gone_any (nm : ByteArray) (vp ve : Value) (es : List ByteArray) (x : ByteArray) (w : World) {lo hi : Nat} (h : StrsAt lo hi w ve es) (hh : hi ≤ w.heap.size) :
    Calls Try.prog 50 #[.agg #[.string nm, vp, ve], .string x] w fun e w' => e = .returned (.bool (memS es x)) ∧ Below w.heap.size w w' := by
  have h1 := h.same ((Same.refl lo hi w).alloc (.cells #[.string nm, vp, ve] 52) hh)
  have H1 := hide h1
  clear h1 h
  go_enter Try.func50, Try.ntmps50
  go_wp2_with fail
  refine (contains_any ve es x _ (unhide H1)).mono ?_
  rintro e w' ⟨rfl, rfl⟩
  go_wp2
  go_ret
  exact ⟨rfl, (Below.refl _ _).alloc (Nat.le_refl _) _⟩

end Go.Proofs.Qxb6601448a
