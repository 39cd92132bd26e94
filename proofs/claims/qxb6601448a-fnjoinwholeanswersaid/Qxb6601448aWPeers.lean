/- The walk of modelPeers (28). -/
import Derived.Test.Qxb6601448aWSort
import Derived.BigQuiet
import Derived.OwnWalk
namespace Go.Proofs.Qxb6601448a
open Go.RowKit
set_option linter.unusedVariables false

def keepTo (pl es : List ByteArray) (k : Nat) : List ByteArray := (pl.take k).filter fun s => !memS es s
theorem keepTo_succ {pl : List ByteArray} (es : List ByteArray) {k : Nat} (hk : k < pl.length) : keepTo pl es (k + 1) = keepTo pl es k ++ (if memS es (nth pl k) then [] else [nth pl k]) := by
  unfold keepTo
  rw [List.take_succ_eq_append_getElem hk, List.filter_append]
  have e : nth pl k = pl[k] := by simp [hk]
  rw [e]
  by_cases h : memS es pl[k] = true <;> simp [h]
theorem keepTo_len (pl es : List ByteArray) (k : Nat) : (keepTo pl es k).length ≤ k := by
  unfold keepTo
  exact Nat.le_trans (List.length_filter_le _ _) (List.length_take_le _ _)
theorem keepTo_all (pl es : List ByteArray) : keepTo pl es pl.length = pl.filter fun s => !memS es s := by
  unfold keepTo
  rw [List.take_length]

/-- The first loop: the peers that stay. -/
theorem strs_row {w : World} {base g cap n : Nat} {ys : List ByteArray} (h : w.ownsRow base 9 1 (.slice (some ⟨g, 0, none⟩) n cap) n (ys.map Value.string)) {j : Nat} (hj : j < n) : w.cell? ⟨g, j, none⟩ = some (.string (nth ys j)) := by
  have hl : ys.length = n := by
    have := h.1
    simpa using this
  rw [h.cellAt j (by omega)]
  simp [show j < ys.length by omega]

set_option maxRecDepth 100000 in
set_option maxHeartbeats 2000000 in
theorem modelPeers_any (vp ve : Value) (pl es : List ByteArray) (w : World) {lo hi : Nat} (hp : StrsAt lo hi w vp pl) (he : StrsAt lo hi w ve es) (hh : hi ≤ w.heap.size) (hlen : pl.length ≤ 4096) :
    Calls Try.prog 28 #[vp, ve] w fun e w' => ∃ a n c, e = .returned (.slice a n c) ∧ StrsAt w.heap.size w'.heap.size w' (.slice a n c) (kept pl es) ∧ Below w.heap.size w w' := by
  obtain ⟨i0, hi0, hz0, hz1, hz2⟩ := info_parts (P := Try.prog) (e := 9) (z := .string ByteArray.empty) (size := 1) (bytes := 16) (by kernel_rfl)
  have hsz := hp.2
  obtain ⟨ao, cap, rfl⟩ := hp.shape
  have hcells : ∀ k, k < pl.length → ∃ b off, ao = some ⟨b, off, none⟩ ∧ b < w.heap.size ∧ w.cell? ⟨b, off + k, none⟩ = some (.string (nth pl k)) := fun k hk => by
    rcases hp.open with ⟨_, _, _, h0, _⟩ | ⟨b, off, cap', hbh, _, hv, _, _, _, hc⟩
    · subst h0; simp at hk
    · cases hv
      exact ⟨b, off, rfl, by omega, hc k hk⟩
  have hcap : pl.length ≤ cap := by
    obtain ⟨⟨_, _, hv, h1, _⟩, _⟩ := hp
    injection hv with e1 e2 e3
    subst e3
    simpa using h1
  have hmem : ∀ wr, Below w.heap.size w wr → ∀ x, Calls Try.prog 55 #[ve, .string x] wr fun e w' => e = .returned (.bool (memS es x)) ∧ w' = wr := fun wr hb x => hasStr_any ve es x wr (he.same (Same.below hb hh))
  have HC := hide hcells
  have HM := hide hmem
  have HS := hide hsz
  clear hcells hmem hsz hp he
  obtain ⟨len, hln⟩ : ∃ len, len = pl.length := ⟨_, rfl⟩
  have HL := hide hln
  rw [← hln] at hcap hlen ⊢
  clear hln
  go_enter Try.func28, Try.ntmps28
  go_wp2_with (first | (at_make; refine wpList_make_own _ rfl _ _ 23 rfl w.heap.size 9 i0 (.string ByteArray.empty) 1 Try.underlying23 hi0 hz0 hz1 _ _ _ len rfl rfl (by simp) (by rw [hz2]; omega) (by simp [maxLen]; omega) (Nat.le_refl _) ?_; intro w1 hown hgrow) | fail)
  have hb0 : Below w.heap.size w w1 := (Below.refl _ _).grown hgrow (Nat.le_refl _) (fun k h => by cases h)
  clear hgrow
  go_loopw [5, 6] (fun vo vi wr => ∃ k n : Nat, k ≤ len ∧ vi = .int .i64 k ∧ n ≤ k ∧ vo = .slice (some ⟨w.heap.size, 0, none⟩) n len ∧ wr.ownsRow w.heap.size 9 1 (.slice (some ⟨w.heap.size, 0, none⟩) n len) n ((keepTo pl es k).map Value.string) ∧ Below w.heap.size w wr) (fun _ vi _ => len - (intOf vi).toNat)
  case atStart => exact ⟨0, 0, Nat.zero_le _, rfl, Nat.le_refl _, rfl, hown, hb0⟩
  case round =>
    clear hown hb0
    obtain ⟨k, n, hk, rfl, hnk, rfl, hrow, hbl⟩ := hrel
    by_cases hlt : k < len
    · have hk' : k < pl.length := by rw [← unhide HL]; exact hlt
      obtain ⟨b, off, rfl, hbw, hc0⟩ := unhide HC k hk'
      have hcell : wr.cell? ⟨b, off + k, none⟩ = some (.string (nth pl k)) := (hbl.cell hbw).trans hc0
      have hcall := unhide HM wr hbl (nth pl k)
      have hnx := keepTo_succ es hk'
      have hbs := hbl.size
      obtain ⟨s, hs⟩ : ∃ s, s = nth pl k := ⟨_, rfl⟩
      rw [← hs] at hcell hcall hnx
      clear hs hc0
      have HROW := hide hrow
      have HB := hide hbl
      have HNX := hide hnx
      have HCALL := hide hcall
      cases hq : memS es s with
      | true =>
        have HQ := hide hq
        clear hrow hbl hnx hcall hq
        go_wp2_with fail
        refine (unhide HCALL).mono ?_
        rw [unhide HQ]
        rintro e w2 ⟨rfl, hw2⟩
        obtain rfl := hw2.symm
        go_wp2
        go_roundw
        case rel =>
          refine ⟨k + 1, n, by omega, by go_num, by omega, rfl, ?_, unhide HB⟩
          rw [unhide HNX, unhide HQ]
          simpa using unhide HROW
        case measure => simp [intOf]; omega
      | false =>
        have HQ := hide hq
        clear hrow hbl hnx hcall hq
        go_wp2_with fail
        refine (unhide HCALL).mono ?_
        rw [unhide HQ]
        rintro e w2 ⟨rfl, hw2⟩
        obtain rfl := hw2.symm
        go_wp2_with (first | (at_builtin; refine wpList_append_fits _ rfl _ _ 23 rfl w.heap.size 9 i0 1 Try.underlying23 hi0 hz1 w.heap.size n len _ rfl ((unhide HROW).alloc _) ⟨wr.heap.size, 0, none⟩ 1 1 [.string s] rfl rfl (by intro t u ht; match t, ht with | 0, ht => simp at ht; subst ht; simp [Addr.add]) (by intro u hu; simp at hu; subst hu; rfl) (by omega) ?_; intro w3 hown3 hgrow3) | fail)
        go_roundw
        case rel =>
          refine ⟨k + 1, n + 1, by omega, by go_num, by omega, rfl, ?_, ?_⟩
          · rw [unhide HNX, unhide HQ]
            simpa using hown3
          · exact ((unhide HB).alloc hbs _).grown hgrow3 (by simp; omega) (fun k h => by cases h; exact Nat.le_refl _)
        case measure => simp [intOf]; omega
    · obtain rfl : k = len := by omega
      have hall : keepTo pl es k = pl.filter fun s => !memS es s := by rw [unhide HL]; exact keepTo_all pl es
      rw [hall] at hrow
      clear hall HC HM
      have hfl : ∀ s ∈ pl.filter (fun s => !memS es s), s.size ≤ maxLen := fun s hs => unhide HS s (List.mem_filter.1 hs).1
      have HFL := hide hfl
      have HDN : Hid (∀ ys, Ord (pl.filter fun s => !memS es s) ys ys.length → ys = kept pl es) := fun ys => Ord.done
      have hbeg := Ord.begin (pl.filter fun s => !memS es s)
      have hnl : (pl.filter fun s => !memS es s).length = n := by
        have := hrow.1
        simpa using this
      generalize pl.filter (fun s => !memS es s) = fl at hrow HFL HDN hbeg hnl
      have HR := hide hrow
      have HB := hide hbl
      have HBG := hide hbeg
      have HNL := hide hnl
      clear hrow hbl hfl hbeg HS HL hnl
      go_wp2
      go_loopw [7, 8, 9] (fun vi vj vt wr => ∃ (i : Nat) (ys : List ByteArray), vi = .int .i64 i ∧ 1 ≤ i ∧ (i ≤ n ∨ i = 1) ∧ Ord fl ys i ∧ wr.ownsRow w.heap.size 9 1 (.slice (some ⟨w.heap.size, 0, none⟩) n k) n (ys.map Value.string) ∧ Below w.heap.size w wr) (fun vi _ _ _ => n - (intOf vi).toNat)
      case atStart => exact ⟨1, fl, rfl, Nat.le_refl _, Or.inr rfl, unhide HBG, unhide HR, unhide HB⟩
      case round =>
        clear HR HB HBG
        obtain ⟨i, ys, rfl, hi1, hin, hord, hrow, hbl⟩ := hrel
        by_cases hlt2 : i < n
        · have HI := hide hord.start
          have HR := hide hrow
          have HB := hide hbl
          clear hord hrow hbl
          go_wp2
          go_loopw [8, 9] (fun vj vt wr => ∃ (j : Nat) (ys : List ByteArray), vj = .int .i64 j ∧ j ≤ i ∧ Ins fl ys i j ∧ wr.ownsRow w.heap.size 9 1 (.slice (some ⟨w.heap.size, 0, none⟩) n k) n (ys.map Value.string) ∧ Below w.heap.size w wr) (fun vj _ _ => (intOf vj).toNat)
          case atStart => exact ⟨i, ys, rfl, Nat.le_refl _, unhide HI, unhide HR, unhide HB⟩
          case round =>
            clear HI HR HB
            obtain ⟨j, ys, rfl, hji, hins, hrow, hbl⟩ := hrel
            cases j with
            | zero =>
              have HO := hide (hins.stop (fun h => absurd h (Nat.lt_irrefl _)))
              have HR := hide hrow
              have HB := hide hbl
              clear hins hrow hbl
              go_wp2_with fail
              go_quiet (fail)
              go_wp2
              go_roundw
              case rel => exact ⟨i + 1, ys, by go_num, by omega, Or.inl (by omega), unhide HO, unhide HR, below_drewN (unhide HB) _⟩
              case measure => simp [intOf]; omega
            | succ m =>
              have hyl : ys.length = n := by
                have := hrow.1
                simpa using this
              have c1 := strs_row hrow (j := m + 1) (by omega)
              have c0 := strs_row hrow (j := m) (by omega)
              have f1 := hrow.frozenAt (m + 1)
              have f0 := hrow.frozenAt m
              have hst := (hrow.stored (m + 1) (.string (nth ys m))).1
              have hst2 := (hst.stored m (.string (nth ys (m + 1)))).1
              rw [show ((ys.map Value.string).set (m + 1) (.string (nth ys m))).set m (.string (nth ys (m + 1))) = ((ys.set (m + 1) (nth ys m)).set m (nth ys (m + 1))).map Value.string by rw [List.map_set, List.map_set]] at hst2
              have hstep := fun h => hins.step (by omega) hji (by omega) h
              have hstop := fun h => hins.stop (fun _ => h)
              simp only [Nat.add_sub_cancel] at hstep hstop
              have HST := hide hst2
              have HSP := hide hstep
              have HSO := hide hstop
              have HR := hide hrow
              have HB := hide hbl
              clear hst hst2 hstep hstop hins hrow hbl hyl
              generalize (ys.set (m + 1) (nth ys m)).set m (nth ys (m + 1)) = zs at HST HSP
              generalize nth ys (m + 1) = t1 at *
              generalize nth ys m = t0 at *
              have hg0 : (0 : Int) < ((m : Int) + 1) := by omega
              cases hq : Op.bytesLess t1.toList t0.toList with
              | true =>
                go_wp2_with fail
                go_quiet (fail)
                go_wp2
                go_roundw
                case rel => exact ⟨m, zs, by go_num, by omega, unhide HSP hq, unhide HST, ((below_drewN (unhide HB) _).setCell (p := ⟨w.heap.size, m + 1, none⟩) (Nat.le_refl _) _).setCell (p := ⟨w.heap.size, m, none⟩) (Nat.le_refl _) _⟩
                case measure => simp [intOf]
              | false =>
                go_wp2_with fail
                go_quiet (fail)
                go_wp2
                go_roundw
                case rel => exact ⟨i + 1, ys, by go_num, by omega, Or.inl (by omega), unhide HSO hq, unhide HR, below_drewN (unhide HB) _⟩
                case measure => simp [intOf]; omega
        · have hyl : ys.length = n := by
            have := hrow.1
            simpa using this
          have hfin : ys = kept pl es := unhide HDN ys ⟨hord.1, fun a b h1 h2 => hord.2 a b h1 (by omega)⟩
          have hys : ∀ s ∈ ys, s.size ≤ maxLen := fun s hs => unhide HFL s (hord.1.mem_iff.1 hs)
          have hrow' : wr.ownsRow w.heap.size 9 1 (.slice (some ⟨w.heap.size, 0, none⟩) ys.length k) ys.length (ys.map Value.string) := by rw [hyl]; exact hrow
          have HF := hide (strs_own hrow' (by omega) hys)
          have HB := hide hbl
          have HY := hide hyl
          have HR := hide hfin
          clear hrow hrow' hord hbl hyl hfin hys
          go_wp2
          go_ret
          refine ⟨_, _, _, rfl, ?_, unhide HB⟩
          rw [← unhide HR, ← unhide HY]
          exact unhide HF

end Go.Proofs.Qxb6601448a
