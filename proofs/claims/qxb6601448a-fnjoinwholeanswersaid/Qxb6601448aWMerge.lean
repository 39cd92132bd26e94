/- The walks of mergeMarkers (29) and mergeFinals (30). -/
import Derived.Test.Qxb6601448aWEnts
namespace Go.Proofs.Qxb6601448a
open Go.RowKit
set_option linter.unusedVariables false

section
variable {β : Type}
def freshTo (xs : List ByteArray) (base inc : List (ByteArray × β)) (k : Nat) : List (ByteArray × β) := freshE xs base (inc.take k)
theorem freshTo_succ (xs : List ByteArray) (base : List (ByteArray × β)) {inc : List (ByteArray × β)} {k : Nat} (hk : k < inc.length) : freshTo xs base inc (k + 1) = freshTo xs base inc k ++ (if (!hasE base inc[k].1 && !memS xs inc[k].1) then [inc[k]] else []) := by
  unfold freshTo freshE
  rw [List.take_succ_eq_append_getElem hk, List.filter_append]
  by_cases h : (!hasE base inc[k].1 && !memS xs inc[k].1) = true <;> simp [h]
theorem freshTo_all (xs : List ByteArray) (base inc : List (ByteArray × β)) : freshTo xs base inc inc.length = freshE xs base inc := by
  unfold freshTo
  rw [List.take_length]
theorem fresh_len (xs : List ByteArray) (base inc : List (ByteArray × β)) : (freshE xs base inc).length ≤ inc.length := List.length_filter_le _ _
theorem freshTo_len (xs : List ByteArray) (base inc : List (ByteArray × β)) (k : Nat) : (freshTo xs base inc k).length ≤ k := Nat.le_trans (fresh_len _ _ _) (List.length_take_le _ _)
theorem take_snoc {base : List (ByteArray × β)} {k : Nat} (hk : k < base.length) : base.take (k + 1) = base.take k ++ [base[k]] := List.take_succ_eq_append_getElem hk
end

set_option maxRecDepth 100000 in
set_option maxHeartbeats 2000000 in
theorem mergeMarkers_any (v0 v1 v2 : Value) (base inc : List (ByteArray × MV)) (xs : List ByteArray) (w : World) {lo hi : Nat} (h0 : EntsAt 3 mCells lo hi w v0 base) (h1 : EntsAt 3 mCells lo hi w v1 inc) (h2 : StrsAt lo hi w v2 xs) (hh : hi ≤ w.heap.size) (n0 : base.length ≤ 4096) (n1 : inc.length ≤ 4096) :
    Calls Try.prog 29 #[v0, v1, v2] w fun e w' => ∃ g n c, e = .returned (.slice (some ⟨g, 0, none⟩) n c) ∧ EntsAt 3 mCells w.heap.size w'.heap.size w' (.slice (some ⟨g, 0, none⟩) n c) (base ++ freshE xs base inc) ∧ Below w.heap.size w w' := by
  obtain ⟨i0, hi0, hz0, hz1, hz2⟩ := info_parts (P := Try.prog) (e := 64) (z := .agg #[.string ByteArray.empty, .int .u64 0, .slice none 0 0]) (size := 3) (bytes := 48) (by kernel_rfl)
  have kH : ∀ wr, Below w.heap.size w wr → ∀ x, Calls Try.prog 56 #[v0, .string x] wr fun e w' => e = .returned (.bool (hasE base x)) ∧ w' = wr := fun wr hb x => hasMEntry_any v0 base x wr (h0.same (Same.below hb hh))
  have kS : ∀ wr, Below w.heap.size w wr → ∀ x, Calls Try.prog 55 #[v2, .string x] wr fun e w' => e = .returned (.bool (memS xs x)) ∧ w' = wr := fun wr hb x => hasStr_any v2 xs x wr (h2.same (Same.below hb hh))
  obtain ⟨g0, cap0, rfl, _, gh0, hcap0, _, hs0, hc0⟩ := h0
  obtain ⟨g1, cap1, rfl, _, gh1, hcap1, _, hs1, hc1⟩ := h1
  have HSZ : Hid (∀ p ∈ base ++ freshE xs base inc, p.1.size ≤ maxLen) := fun p hp => by
    rcases List.mem_append.1 hp with h | h
    · exact hs0 p h
    · exact hs1 p (List.mem_filter.1 h).1
  have HC0 : Hid (∀ wr, Below w.heap.size w wr → ∀ k (hk : k < base.length), wr.cell? ⟨g0, k * 3, none⟩ = some (.string base[k].1) ∧ wr.cell? ⟨g0, k * 3 + 1, none⟩ = some (.int .u64 base[k].2.1) ∧ wr.cell? ⟨g0, k * 3 + 2, none⟩ = some (.slice base[k].2.2.1 base[k].2.2.2.1 base[k].2.2.2.2)) := fun wr hb k hk => ⟨(hb.cell (Nat.lt_of_lt_of_le gh0 hh)).trans (hc0 k 0 (by omega) hk), (hb.cell (Nat.lt_of_lt_of_le gh0 hh)).trans (hc0 k 1 (by omega) hk), (hb.cell (Nat.lt_of_lt_of_le gh0 hh)).trans (hc0 k 2 (by omega) hk)⟩
  have HC1 : Hid (∀ wr, Below w.heap.size w wr → ∀ k (hk : k < inc.length), wr.cell? ⟨g1, k * 3, none⟩ = some (.string inc[k].1) ∧ wr.cell? ⟨g1, k * 3 + 1, none⟩ = some (.int .u64 inc[k].2.1) ∧ wr.cell? ⟨g1, k * 3 + 2, none⟩ = some (.slice inc[k].2.2.1 inc[k].2.2.2.1 inc[k].2.2.2.2)) := fun wr hb k hk => ⟨(hb.cell (Nat.lt_of_lt_of_le gh1 hh)).trans (hc1 k 0 (by omega) hk), (hb.cell (Nat.lt_of_lt_of_le gh1 hh)).trans (hc1 k 1 (by omega) hk), (hb.cell (Nat.lt_of_lt_of_le gh1 hh)).trans (hc1 k 2 (by omega) hk)⟩
  have KH := hide kH
  have KS := hide kS
  have HF := fun k (hk : k < inc.length) => freshTo_succ xs base hk
  have HFX := hide HF
  have HFL : Hid (∀ k, (freshTo xs base inc k).length ≤ k) := fun k => freshTo_len xs base inc k
  have HFA := hide (freshTo_all xs base inc)
  have HF0 : Hid (freshTo xs base inc 0 = []) := by
    show freshTo xs base inc 0 = []
    simp [freshTo, freshE]
  have HTK : Hid (∀ k (hk : k < base.length), base.take (k + 1) = base.take k ++ [base[k]]) := fun k hk => take_snoc hk
  clear kH kS hs0 hs1 hc0 hc1 h2 HF
  obtain ⟨l0, hl0⟩ : ∃ l, l = base.length := ⟨_, rfl⟩
  obtain ⟨l1, hl1⟩ : ∃ l, l = inc.length := ⟨_, rfl⟩
  have HL0 := hide hl0
  have HL1 := hide hl1
  rw [← hl0] at hcap0 n0 KH ⊢
  rw [← hl1] at hcap1 n1 ⊢
  rw [← hl1] at HFA
  clear hl0 hl1
  go_enter Try.func29, Try.ntmps29
  go_wp2_with (first | (at_make; refine wpList_make_own _ rfl _ _ 54 rfl w.heap.size 64 i0 _ 3 Try.underlying54 hi0 hz0 hz1 _ _ _ (l0 + l1) rfl rfl (by simp) (by rw [hz2]; omega) (by simp [maxLen]; omega) (Nat.le_refl _) ?_; intro w1 hown hgrow) | fail)
  have hb0 : Below w.heap.size w w1 := (Below.refl _ _).grown hgrow (Nat.le_refl _) (fun k h => by cases h)
  clear hgrow
  go_loopw [7, 8] (fun vo vi wr => ∃ k : Nat, k ≤ l0 ∧ vi = .int .i64 k ∧ vo = .slice (some ⟨w.heap.size, 0, none⟩) k (l0 + l1) ∧ wr.ownsRow w.heap.size 64 3 (.slice (some ⟨w.heap.size, 0, none⟩) k (l0 + l1)) k ((base.take k).flatMap mCells) ∧ Below w.heap.size w wr) (fun _ vi _ => l0 - (intOf vi).toNat)
  case atStart => exact ⟨0, Nat.zero_le _, rfl, rfl, hown, hb0⟩
  case round =>
    clear hown hb0
    obtain ⟨k, hk, rfl, rfl, hrow, hbl⟩ := hrel
    by_cases hlt : k < l0
    · have hk' : k < base.length := by rw [← unhide HL0]; exact hlt
      obtain ⟨c0, c1, c2⟩ := unhide HC0 wr hbl k hk'
      have hnx := unhide HTK k hk'
      have hbs := hbl.size
      obtain ⟨p, hp⟩ : ∃ p, p = base[k] := ⟨_, rfl⟩
      rw [← hp] at c0 c1 c2 hnx
      obtain ⟨s, z, pa, pn, pc⟩ := p
      clear hp
      simp only at c0 c1 c2
      have HROW := hide hrow
      have HB := hide hbl
      have HX := hide hnx
      clear hrow hbl hnx
      go_wp2_with (first | (at_builtin; refine wpList_append_fits _ rfl _ _ 54 rfl w.heap.size 64 i0 3 Try.underlying54 hi0 hz1 w.heap.size k (l0 + l1) _ rfl ((unhide HROW).alloc _) ⟨wr.heap.size, 0, none⟩ 1 1 [.string s, .int .u64 z, .slice pa pn pc] rfl rfl (by intro t u ht; match t, ht with | 0, ht => simp at ht; subst ht; simp [Addr.add] | 1, ht => simp at ht; subst ht; simp [Addr.add] | 2, ht => simp at ht; subst ht; simp [Addr.add]) (by intro u hu; simp at hu; rcases hu with rfl | rfl | rfl <;> rfl) (by omega) ?_; intro w3 hown3 hgrow3) | fail)
      go_roundw
      case rel =>
        refine ⟨k + 1, by omega, by go_num, rfl, ?_, ?_⟩
        · rw [unhide HX]
          simpa [mCells] using hown3
        · exact ((unhide HB).alloc hbs _).grown hgrow3 (by simp; omega) (fun k h => by cases h; exact Nat.le_refl _)
      case measure => simp [intOf]; omega
    · obtain rfl : k = l0 := by omega
      have htk : base.take k = base := by rw [unhide HL0, List.take_length]
      rw [htk] at hrow
      have HROW := hide hrow
      have HB := hide hbl
      clear hrow hbl htk HTK HC0
      go_wp2
      go_loopw [7, 9] (fun vo vi wr => ∃ (j n : Nat), j ≤ l1 ∧ vi = .int .i64 j ∧ n ≤ j ∧ n = (freshTo xs base inc j).length ∧ vo = .slice (some ⟨w.heap.size, 0, none⟩) (k + n) (k + l1) ∧ wr.ownsRow w.heap.size 64 3 (.slice (some ⟨w.heap.size, 0, none⟩) (k + n) (k + l1)) (k + n) ((base ++ freshTo xs base inc j).flatMap mCells) ∧ Below w.heap.size w wr) (fun _ vi _ => l1 - (intOf vi).toNat)
      case atStart => exact ⟨0, 0, Nat.zero_le _, rfl, Nat.le_refl _, by rw [unhide HF0]; rfl, rfl, by rw [unhide HF0]; simpa using unhide HROW, unhide HB⟩
      case round =>
        clear HROW HB
        obtain ⟨j, n, hj, rfl, hnj, hn, rfl, hrow, hbl⟩ := hrel
        have HN := hide hn
        clear hn
        by_cases hlt2 : j < l1
        · have hj' : j < inc.length := by rw [← unhide HL1]; exact hlt2
          obtain ⟨c0, c1, c2⟩ := unhide HC1 wr hbl j hj'
          have hnx := unhide HFX j hj'
          have hbs := hbl.size
          have kh := unhide KH wr hbl inc[j].1
          have ks := unhide KS wr hbl inc[j].1
          obtain ⟨p, hp⟩ : ∃ p, p = inc[j] := ⟨_, rfl⟩
          rw [← hp] at c0 c1 c2 hnx kh ks
          obtain ⟨s, z, pa, pn, pc⟩ := p
          clear hp
          simp only at c0 c1 c2 hnx kh ks
          have HROW := hide hrow
          have HB := hide hbl
          have HX := hide hnx
          have KH1 := hide kh
          have KS1 := hide ks
          cases hq1 : hasE base s with
          | true =>
            have HQ1 := hide hq1
            clear hrow hbl hnx kh ks hq1
            go_wp2_with fail
            refine (unhide KH1).mono ?_
            rw [unhide HQ1]
            rintro e w2 ⟨rfl, hw2⟩
            obtain rfl := hw2.symm
            go_wp2
            go_roundw
            case rel =>
              refine ⟨j + 1, n, by omega, by go_num, by omega, ?_, rfl, ?_, unhide HB⟩
              · rw [unhide HX, unhide HQ1, unhide HN]; simp
              · rw [unhide HX, unhide HQ1]; simpa using unhide HROW
            case measure => simp [intOf]; omega
          | false =>
            have HQ1 := hide hq1
            clear hq1
            cases hq2 : memS xs s with
            | true =>
              have HQ2 := hide hq2
              clear hrow hbl hnx kh ks hq2
              go_wp2_with fail
              refine (unhide KH1).mono ?_
              rw [unhide HQ1]
              rintro e w2 ⟨rfl, hw2⟩
              obtain rfl := hw2.symm
              go_wp2_with fail
              refine (unhide KS1).mono ?_
              rw [unhide HQ2]
              rintro e w2 ⟨rfl, hw2⟩
              obtain rfl := hw2.symm
              go_wp2
              go_roundw
              case rel =>
                refine ⟨j + 1, n, by omega, by go_num, by omega, ?_, rfl, ?_, unhide HB⟩
                · rw [unhide HX, unhide HQ1, unhide HQ2, unhide HN]; simp
                · rw [unhide HX, unhide HQ1, unhide HQ2]; simpa using unhide HROW
              case measure => simp [intOf]; omega
            | false =>
              have HQ2 := hide hq2
              clear hrow hbl hnx kh ks hq2
              go_wp2_with fail
              refine (unhide KH1).mono ?_
              rw [unhide HQ1]
              rintro e w2 ⟨rfl, hw2⟩
              obtain rfl := hw2.symm
              go_wp2_with fail
              refine (unhide KS1).mono ?_
              rw [unhide HQ2]
              rintro e w2 ⟨rfl, hw2⟩
              obtain rfl := hw2.symm
              go_wp2_with (first | (at_builtin; refine wpList_append_fits _ rfl _ _ 54 rfl w.heap.size 64 i0 3 Try.underlying54 hi0 hz1 w.heap.size (k + n) (k + l1) _ rfl ((unhide HROW).alloc _) ⟨wr.heap.size, 0, none⟩ 1 1 [.string s, .int .u64 z, .slice pa pn pc] rfl rfl (by intro t u ht; match t, ht with | 0, ht => simp at ht; subst ht; simp [Addr.add] | 1, ht => simp at ht; subst ht; simp [Addr.add] | 2, ht => simp at ht; subst ht; simp [Addr.add]) (by intro u hu; simp at hu; rcases hu with rfl | rfl | rfl <;> rfl) (by omega) ?_; intro w3 hown3 hgrow3) | fail)
              go_roundw
              case rel =>
                refine ⟨j + 1, n + 1, by omega, by go_num, by omega, ?_, rfl, ?_, ?_⟩
                · rw [unhide HX, unhide HQ1, unhide HQ2, unhide HN]; simp
                · rw [unhide HX, unhide HQ1, unhide HQ2]
                  simpa [mCells, Nat.add_assoc] using hown3
                · exact ((unhide HB).alloc hbs _).grown hgrow3 (by simp; omega) (fun k h => by cases h; exact Nat.le_refl _)
              case measure => simp [intOf]; omega
        · obtain rfl : j = l1 := by omega
          rw [unhide HFA] at hrow
          have hln : (base ++ freshE xs base inc).length = k + n := by
            rw [List.length_append, ← unhide HL0, ← unhide HFA, ← unhide HN]
          have HLN := hide hln
          have HFIN := hide (ents_own (cells := mCells) (es := base ++ freshE xs base inc) mCells_len (by rw [hln]; exact hrow) (by rw [hln]; omega) (unhide HSZ))
          have HB := hide hbl
          clear hrow hbl hln
          go_wp2
          go_ret
          refine ⟨_, _, _, rfl, ?_, unhide HB⟩
          have := unhide HFIN
          rw [unhide HLN] at this
          exact this

set_option maxRecDepth 100000 in
set_option maxHeartbeats 2000000 in
theorem mergeFinals_any (v0 v1 v2 : Value) (base inc : List (ByteArray × Int)) (xs : List ByteArray) (w : World) {lo hi : Nat} (h0 : EntsAt 2 fCells lo hi w v0 base) (h1 : EntsAt 2 fCells lo hi w v1 inc) (h2 : StrsAt lo hi w v2 xs) (hh : hi ≤ w.heap.size) (n0 : base.length ≤ 4096) (n1 : inc.length ≤ 4096) :
    Calls Try.prog 30 #[v0, v1, v2] w fun e w' => ∃ g n c, e = .returned (.slice (some ⟨g, 0, none⟩) n c) ∧ EntsAt 2 fCells w.heap.size w'.heap.size w' (.slice (some ⟨g, 0, none⟩) n c) (base ++ freshE xs base inc) ∧ Below w.heap.size w w' := by
  obtain ⟨i0, hi0, hz0, hz1, hz2⟩ := info_parts (P := Try.prog) (e := 95) (z := .agg #[.string ByteArray.empty, .int .u64 0]) (size := 2) (bytes := 24) (by kernel_rfl)
  have kH : ∀ wr, Below w.heap.size w wr → ∀ x, Calls Try.prog 57 #[v0, .string x] wr fun e w' => e = .returned (.bool (hasE base x)) ∧ w' = wr := fun wr hb x => hasFEntry_any v0 base x wr (h0.same (Same.below hb hh))
  have kS : ∀ wr, Below w.heap.size w wr → ∀ x, Calls Try.prog 55 #[v2, .string x] wr fun e w' => e = .returned (.bool (memS xs x)) ∧ w' = wr := fun wr hb x => hasStr_any v2 xs x wr (h2.same (Same.below hb hh))
  obtain ⟨g0, cap0, rfl, _, gh0, hcap0, _, hs0, hc0⟩ := h0
  obtain ⟨g1, cap1, rfl, _, gh1, hcap1, _, hs1, hc1⟩ := h1
  have HSZ : Hid (∀ p ∈ base ++ freshE xs base inc, p.1.size ≤ maxLen) := fun p hp => by
    rcases List.mem_append.1 hp with h | h
    · exact hs0 p h
    · exact hs1 p (List.mem_filter.1 h).1
  have HC0 : Hid (∀ wr, Below w.heap.size w wr → ∀ k (hk : k < base.length), wr.cell? ⟨g0, k * 2, none⟩ = some (.string base[k].1) ∧ wr.cell? ⟨g0, k * 2 + 1, none⟩ = some (.int .u64 base[k].2)) := fun wr hb k hk => ⟨(hb.cell (Nat.lt_of_lt_of_le gh0 hh)).trans (hc0 k 0 (by omega) hk), (hb.cell (Nat.lt_of_lt_of_le gh0 hh)).trans (hc0 k 1 (by omega) hk)⟩
  have HC1 : Hid (∀ wr, Below w.heap.size w wr → ∀ k (hk : k < inc.length), wr.cell? ⟨g1, k * 2, none⟩ = some (.string inc[k].1) ∧ wr.cell? ⟨g1, k * 2 + 1, none⟩ = some (.int .u64 inc[k].2)) := fun wr hb k hk => ⟨(hb.cell (Nat.lt_of_lt_of_le gh1 hh)).trans (hc1 k 0 (by omega) hk), (hb.cell (Nat.lt_of_lt_of_le gh1 hh)).trans (hc1 k 1 (by omega) hk)⟩
  have KH := hide kH
  have KS := hide kS
  have HF := fun k (hk : k < inc.length) => freshTo_succ xs base hk
  have HFX := hide HF
  have HFL : Hid (∀ k, (freshTo xs base inc k).length ≤ k) := fun k => freshTo_len xs base inc k
  have HFA := hide (freshTo_all xs base inc)
  have HF0 : Hid (freshTo xs base inc 0 = []) := by
    show freshTo xs base inc 0 = []
    simp [freshTo, freshE]
  have HTK : Hid (∀ k (hk : k < base.length), base.take (k + 1) = base.take k ++ [base[k]]) := fun k hk => take_snoc hk
  clear kH kS hs0 hs1 hc0 hc1 h2 HF
  obtain ⟨l0, hl0⟩ : ∃ l, l = base.length := ⟨_, rfl⟩
  obtain ⟨l1, hl1⟩ : ∃ l, l = inc.length := ⟨_, rfl⟩
  have HL0 := hide hl0
  have HL1 := hide hl1
  rw [← hl0] at hcap0 n0 KH ⊢
  rw [← hl1] at hcap1 n1 ⊢
  rw [← hl1] at HFA
  clear hl0 hl1
  go_enter Try.func30, Try.ntmps30
  go_wp2_with (first | (at_make; refine wpList_make_own _ rfl _ _ 56 rfl w.heap.size 95 i0 _ 2 Try.underlying56 hi0 hz0 hz1 _ _ _ (l0 + l1) rfl rfl (by simp) (by rw [hz2]; omega) (by simp [maxLen]; omega) (Nat.le_refl _) ?_; intro w1 hown hgrow) | fail)
  have hb0 : Below w.heap.size w w1 := (Below.refl _ _).grown hgrow (Nat.le_refl _) (fun k h => by cases h)
  clear hgrow
  go_loopw [7, 8] (fun vo vi wr => ∃ k : Nat, k ≤ l0 ∧ vi = .int .i64 k ∧ vo = .slice (some ⟨w.heap.size, 0, none⟩) k (l0 + l1) ∧ wr.ownsRow w.heap.size 95 2 (.slice (some ⟨w.heap.size, 0, none⟩) k (l0 + l1)) k ((base.take k).flatMap fCells) ∧ Below w.heap.size w wr) (fun _ vi _ => l0 - (intOf vi).toNat)
  case atStart => exact ⟨0, Nat.zero_le _, rfl, rfl, hown, hb0⟩
  case round =>
    clear hown hb0
    obtain ⟨k, hk, rfl, rfl, hrow, hbl⟩ := hrel
    by_cases hlt : k < l0
    · have hk' : k < base.length := by rw [← unhide HL0]; exact hlt
      obtain ⟨c0, c1⟩ := unhide HC0 wr hbl k hk'
      have hnx := unhide HTK k hk'
      have hbs := hbl.size
      obtain ⟨p, hp⟩ : ∃ p, p = base[k] := ⟨_, rfl⟩
      rw [← hp] at c0 c1 hnx
      obtain ⟨s, z⟩ := p
      clear hp
      simp only at c0 c1
      have HROW := hide hrow
      have HB := hide hbl
      have HX := hide hnx
      clear hrow hbl hnx
      go_wp2_with (first | (at_builtin; refine wpList_append_fits _ rfl _ _ 56 rfl w.heap.size 95 i0 2 Try.underlying56 hi0 hz1 w.heap.size k (l0 + l1) _ rfl ((unhide HROW).alloc _) ⟨wr.heap.size, 0, none⟩ 1 1 [.string s, .int .u64 z] rfl rfl (by intro t u ht; match t, ht with | 0, ht => simp at ht; subst ht; simp [Addr.add] | 1, ht => simp at ht; subst ht; simp [Addr.add]) (by intro u hu; simp at hu; rcases hu with rfl | rfl <;> rfl) (by omega) ?_; intro w3 hown3 hgrow3) | fail)
      go_roundw
      case rel =>
        refine ⟨k + 1, by omega, by go_num, rfl, ?_, ?_⟩
        · rw [unhide HX]
          simpa [fCells] using hown3
        · exact ((unhide HB).alloc hbs _).grown hgrow3 (by simp; omega) (fun k h => by cases h; exact Nat.le_refl _)
      case measure => simp [intOf]; omega
    · obtain rfl : k = l0 := by omega
      have htk : base.take k = base := by rw [unhide HL0, List.take_length]
      rw [htk] at hrow
      have HROW := hide hrow
      have HB := hide hbl
      clear hrow hbl htk HTK HC0
      go_wp2
      go_loopw [7, 9] (fun vo vi wr => ∃ (j n : Nat), j ≤ l1 ∧ vi = .int .i64 j ∧ n ≤ j ∧ n = (freshTo xs base inc j).length ∧ vo = .slice (some ⟨w.heap.size, 0, none⟩) (k + n) (k + l1) ∧ wr.ownsRow w.heap.size 95 2 (.slice (some ⟨w.heap.size, 0, none⟩) (k + n) (k + l1)) (k + n) ((base ++ freshTo xs base inc j).flatMap fCells) ∧ Below w.heap.size w wr) (fun _ vi _ => l1 - (intOf vi).toNat)
      case atStart => exact ⟨0, 0, Nat.zero_le _, rfl, Nat.le_refl _, by rw [unhide HF0]; rfl, rfl, by rw [unhide HF0]; simpa using unhide HROW, unhide HB⟩
      case round =>
        clear HROW HB
        obtain ⟨j, n, hj, rfl, hnj, hn, rfl, hrow, hbl⟩ := hrel
        have HN := hide hn
        clear hn
        by_cases hlt2 : j < l1
        · have hj' : j < inc.length := by rw [← unhide HL1]; exact hlt2
          obtain ⟨c0, c1⟩ := unhide HC1 wr hbl j hj'
          have hnx := unhide HFX j hj'
          have hbs := hbl.size
          have kh := unhide KH wr hbl inc[j].1
          have ks := unhide KS wr hbl inc[j].1
          obtain ⟨p, hp⟩ : ∃ p, p = inc[j] := ⟨_, rfl⟩
          rw [← hp] at c0 c1 hnx kh ks
          obtain ⟨s, z⟩ := p
          clear hp
          simp only at c0 c1 hnx kh ks
          have HROW := hide hrow
          have HB := hide hbl
          have HX := hide hnx
          have KH1 := hide kh
          have KS1 := hide ks
          cases hq1 : hasE base s with
          | true =>
            have HQ1 := hide hq1
            clear hrow hbl hnx kh ks hq1
            go_wp2_with fail
            refine (unhide KH1).mono ?_
            rw [unhide HQ1]
            rintro e w2 ⟨rfl, hw2⟩
            obtain rfl := hw2.symm
            go_wp2
            go_roundw
            case rel =>
              refine ⟨j + 1, n, by omega, by go_num, by omega, ?_, rfl, ?_, unhide HB⟩
              · rw [unhide HX, unhide HQ1, unhide HN]; simp
              · rw [unhide HX, unhide HQ1]; simpa using unhide HROW
            case measure => simp [intOf]; omega
          | false =>
            have HQ1 := hide hq1
            clear hq1
            cases hq2 : memS xs s with
            | true =>
              have HQ2 := hide hq2
              clear hrow hbl hnx kh ks hq2
              go_wp2_with fail
              refine (unhide KH1).mono ?_
              rw [unhide HQ1]
              rintro e w2 ⟨rfl, hw2⟩
              obtain rfl := hw2.symm
              go_wp2_with fail
              refine (unhide KS1).mono ?_
              rw [unhide HQ2]
              rintro e w2 ⟨rfl, hw2⟩
              obtain rfl := hw2.symm
              go_wp2
              go_roundw
              case rel =>
                refine ⟨j + 1, n, by omega, by go_num, by omega, ?_, rfl, ?_, unhide HB⟩
                · rw [unhide HX, unhide HQ1, unhide HQ2, unhide HN]; simp
                · rw [unhide HX, unhide HQ1, unhide HQ2]; simpa using unhide HROW
              case measure => simp [intOf]; omega
            | false =>
              have HQ2 := hide hq2
              clear hrow hbl hnx kh ks hq2
              go_wp2_with fail
              refine (unhide KH1).mono ?_
              rw [unhide HQ1]
              rintro e w2 ⟨rfl, hw2⟩
              obtain rfl := hw2.symm
              go_wp2_with fail
              refine (unhide KS1).mono ?_
              rw [unhide HQ2]
              rintro e w2 ⟨rfl, hw2⟩
              obtain rfl := hw2.symm
              go_wp2_with (first | (at_builtin; refine wpList_append_fits _ rfl _ _ 56 rfl w.heap.size 95 i0 2 Try.underlying56 hi0 hz1 w.heap.size (k + n) (k + l1) _ rfl ((unhide HROW).alloc _) ⟨wr.heap.size, 0, none⟩ 1 1 [.string s, .int .u64 z] rfl rfl (by intro t u ht; match t, ht with | 0, ht => simp at ht; subst ht; simp [Addr.add] | 1, ht => simp at ht; subst ht; simp [Addr.add]) (by intro u hu; simp at hu; rcases hu with rfl | rfl <;> rfl) (by omega) ?_; intro w3 hown3 hgrow3) | fail)
              go_roundw
              case rel =>
                refine ⟨j + 1, n + 1, by omega, by go_num, by omega, ?_, rfl, ?_, ?_⟩
                · rw [unhide HX, unhide HQ1, unhide HQ2, unhide HN]; simp
                · rw [unhide HX, unhide HQ1, unhide HQ2]
                  simpa [fCells, Nat.add_assoc] using hown3
                · exact ((unhide HB).alloc hbs _).grown hgrow3 (by simp; omega) (fun k h => by cases h; exact Nat.le_refl _)
              case measure => simp [intOf]; omega
        · obtain rfl : j = l1 := by omega
          rw [unhide HFA] at hrow
          have hln : (base ++ freshE xs base inc).length = k + n := by
            rw [List.length_append, ← unhide HL0, ← unhide HFA, ← unhide HN]
          have HLN := hide hln
          have HFIN := hide (ents_own (cells := fCells) (es := base ++ freshE xs base inc) fCells_len (by rw [hln]; exact hrow) (by rw [hln]; omega) (unhide HSZ))
          have HB := hide hbl
          clear hrow hbl hln
          go_wp2
          go_ret
          refine ⟨_, _, _, rfl, ?_, unhide HB⟩
          have := unhide HFIN
          rw [unhide HLN] at this
          exact this

end Go.Proofs.Qxb6601448a
