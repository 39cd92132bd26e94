/- The walks of markerEntries (24) and finalEntries (25). -/
import Derived.Test.Qxb6601448aWRows
import Derived.Deep.RegionHeld3
namespace Go
open Go.RowKit
/-- 'append' within the capacity, at a step of a region that draws its order. -/
theorem step_append_fitsQ {P : Program} {w : World} {ops : Array Oper} {o : Oper} {a : Act} {K : Act → World → Prop} {Q : Exit → Act → World → Prop} {E : Prop} (hgd : o.guard = none) (s x : Operand) (t : TypeId)
    (ho : o.op = .call { callee := .builtin .append, args := #[s, x], argTypes := #[t, t] })
    (base : Nat) (e : TypeId) (i : TypeInfo) (size : Nat) (h1 : P.underlying t = some (.slice e)) (h2 : P.info? e = some i) (h4 : i.size = size)
    (g k cap : Nat) (xs : List Value) (hs : a.eval s = .slice (some ⟨g, 0, none⟩) k cap) (hown : w.ownsRow base e size (.slice (some ⟨g, 0, none⟩) k cap) k xs) (ad : Addr) (m c : Nat) (news : List Value) (hx : a.eval x = .slice (some ad) m c) (hn : news.length = m * size)
    (hc : ∀ j u, news[j]? = some u → w.cell? (ad.add j) = some u) (h1c : ∀ u ∈ news, u.oneCell' = true) (b1 : k + m ≤ cap)
    (h : ∀ w', w'.ownsRow base e size (.slice (some ⟨g, 0, none⟩) (k + m) cap) (k + m) (xs ++ news) → w.grownBy w' (some g) → K (a.put o.dst (.slice (some ⟨g, 0, none⟩) (k + m) cap)) w') :
    if Region.wanted o (yielded ops a.tmps) = true then Oper.wp P o a w K Q else E := by
  have hw : Region.wanted o (yielded ops a.tmps) = true := by simp [Region.wanted, hgd]
  rw [if_pos hw]
  obtain ⟨w', hrun, r1, r2⟩ := run_append_fits (P := P) w base t o.type e i size h1 h2 h4 g k cap xs hown ad m c news hn hc h1c b1
  unfold Oper.wp
  simp [execOp, ho, resolve, invoke, builtin, hs, hx, hrun, Result.andThen]
  exact h w' r1 r2
end Go
namespace Go.Proofs.Qxb6601448a
open Go.RowKit
set_option linter.unusedVariables false

theorem last_eq {ss : List ByteArray} {n k : Nat} {r : Int} (hk : k < n) (h : LastAt ss n (at_ ss k) r) : (r == (k : Int)) = lastTo ss n k := by
  cases hl : lastTo ss n k with
  | true =>
    rw [lastTo_iff] at hl
    rcases h with ⟨_, h2⟩ | ⟨i, rfl, h2, h3, h4⟩
    · have := h2 k hk
      simp at this
    · by_cases hik : i < k
      · have := h4 k hik hk
        simp at this
      · by_cases hki : k < i
        · exact absurd (key_toList.2 (by simpa using h3)) (hl i h2 hki)
        · obtain rfl : i = k := by omega
          simp
  | false =>
    have hn : ¬ ∀ j, j < n → k < j → key (at_ ss j) ≠ key (at_ ss k) := fun hh => by
      rw [lastTo_iff.2 hh] at hl
      cases hl
    cases hr : (r == (k : Int)) with
    | false => rfl
    | true =>
      exfalso
      have hrk : r = k := by simpa using hr
      refine hn fun j h1 h2 h3 => ?_
      have h3' := key_toList.1 h3
      rcases h with ⟨h4, _⟩ | ⟨i, h4, h5, h6, h7⟩
      · omega
      · obtain rfl : i = k := by omega
        have := h7 j h2 h1
        rw [h3'] at this
        simp at this

theorem lastIdx_at (v : Value) (ss : List ByteArray) (k : Nat) (w : World) {lo hi : Nat} (h : StrsAt lo hi w v ss) (hk : k < ss.length) {q : Bool} (hq : Hid (lastTo ss ss.length k = q)) : Calls Try.prog 51 #[v, .string (at_ ss k)] w fun e w' => (∃ r, e = .returned (.int .i64 r) ∧ Hid ((r == (k : Int)) = q)) ∧ w' = w := by
  refine (lastIdx_any v ss (at_ ss k) w h).mono ?_
  rintro e w' ⟨⟨r, rfl, hr⟩, rfl⟩
  exact ⟨⟨r, rfl, (last_eq hk hr).trans hq.out⟩, rfl⟩

/-- A slice's three words. -/
def unS : Value → Option Addr × Nat × Nat
  | .slice a n c => (a, n, c)
  | _ => (none, 0, 0)
/-- The markers that the lists give. -/
def mf (zs : List Int) (vs : List Value) (i : Nat) : MV := (zs.getD i 0, unS (vs.getD i (.slice none 0 0)))
def ff (zs : List Int) (i : Nat) : Int := zs.getD i 0

theorem entsTo_len {β : Type} (ss : List ByteArray) (f : Nat → β) (k : Nat) : (entsTo ss f k).length ≤ k := by
  unfold entsTo
  rw [List.length_map]
  exact Nat.le_trans (List.length_filter_le _ _) (by simp)
theorem entsTo_size {β : Type} {ss : List ByteArray} (f : Nat → β) (h : ∀ s ∈ ss, s.size ≤ maxLen) : ∀ p ∈ entsTo ss f ss.length, p.1.size ≤ maxLen := fun p hp => by
  obtain ⟨i, hi, rfl⟩ := List.mem_map.1 hp
  have hi' : i < ss.length := by simpa using (List.mem_filter.1 hi).1
  have e : at_ ss i = ss[i] := by simp [hi']
  show (at_ ss i).size ≤ maxLen
  rw [e]
  exact h _ (List.getElem_mem hi')

theorem seqAt_is' {v : Value} {zs : List Int} {k : Nat} {w : World} {lo hi : Nat} (h : WordsAt lo hi w v zs) {z : Int} (hz : Hid (zs.getD k 0 = z)) : Calls Try.prog 52 #[v, .int .i64 k] w fun e w' => e = .returned (.int .u64 z) ∧ w' = w := by
  have := seqAt_any v zs k w h
  rwa [hz.out] at this
theorem peersAt_is' {v : Value} {vs : List Value} {k : Nat} {w : World} {lo hi : Nat} (h : RowAt 24 lo hi w v vs) (hs : ∀ i, i < vs.length → ∃ ao n cap, vs.getD i undef = .slice ao n cap) {u : Value} (hu : Hid (vs.getD k (.slice none 0 0) = u)) : Calls Try.prog 53 #[v, .int .i64 k] w fun e w' => e = .returned u ∧ w' = w := by
  have := peersAt_any v vs k w h hs
  rwa [hu.out] at this

set_option maxRecDepth 100000 in
set_option maxHeartbeats 2000000 in
theorem markerEntries_any (v1 v2 v3 : Value) (ss : List ByteArray) (zs : List Int) (vs : List Value) (w : World) {lo hi : Nat} (h1 : StrsAt lo hi w v1 ss) (h2 : WordsAt lo hi w v2 zs) (h3 : RowAt 24 lo hi w v3 vs) (h3s : ∀ i, i < vs.length → ∃ ao n cap, vs.getD i undef = .slice ao n cap) (hh : hi ≤ w.heap.size) (hlen : ss.length ≤ 4096) :
    Calls Try.prog 24 #[v1, v2, v3] w fun e w' => ∃ g n c, e = .returned (.slice (some ⟨g, 0, none⟩) n c) ∧ EntsAt 3 mCells w.heap.size w'.heap.size w' (.slice (some ⟨g, 0, none⟩) n c) (entsTo ss (mf zs vs) ss.length) ∧ Below w.heap.size w w' := by
  obtain ⟨i0, hi0, hz0, hz1, hz2⟩ := info_parts (P := Try.prog) (e := 64) (z := .agg #[.string ByteArray.empty, .int .u64 0, .slice none 0 0]) (size := 3) (bytes := 48) (by kernel_rfl)
  have hsz := entsTo_size (mf zs vs) h1.2
  obtain ⟨ao, cap, rfl⟩ := h1.shape
  have hcells : ∀ k, k < ss.length → ∃ b off, ao = some ⟨b, off, none⟩ ∧ b < w.heap.size ∧ w.cell? ⟨b, off + k, none⟩ = some (.string (at_ ss k)) := fun k hk => by
    rcases h1.open with ⟨_, _, _, h0, _⟩ | ⟨b, off, cap', hbh, _, hv, _, _, _, hc⟩
    · subst h0; simp at hk
    · cases hv
      exact ⟨b, off, rfl, by omega, hc k hk⟩
  have hcap : ss.length ≤ cap := by
    obtain ⟨⟨_, _, hv, h1, _⟩, _⟩ := h1
    injection hv with e1 e2 e3
    subst e3
    simpa using h1
  have hlast : ∀ wr, Below w.heap.size w wr → ∀ k, k < ss.length → ∀ q, Hid (lastTo ss ss.length k = q) → Calls Try.prog 51 #[.slice ao ss.length cap, .string (at_ ss k)] wr fun e w' => (∃ r, e = .returned (.int .i64 r) ∧ Hid ((r == (k : Int)) = q)) ∧ w' = wr := fun wr hb k hk q hq => lastIdx_at _ ss k wr (h1.same (Same.below hb hh)) hk hq
  have HC := hide hcells
  have HLA := hide hlast
  have HS := hide hsz
  have H2 := hide h2
  have H3 := hide h3
  have H3s := hide h3s
  clear hcells hlast hsz h1 h2 h3 h3s
  have HNX : Hid (∀ k, entsTo ss (mf zs vs) (k + 1) = entsTo ss (mf zs vs) k ++ (if lastTo ss ss.length k then [(at_ ss k, mf zs vs k)] else [])) := fun k => entsTo_succ ss (mf zs vs) k
  have HLE : Hid (∀ k, (entsTo ss (mf zs vs) k).length ≤ k) := fun k => entsTo_len ss (mf zs vs) k
  have HE0 : Hid (entsTo ss (mf zs vs) 0 = []) := rfl
  obtain ⟨len, hln⟩ : ∃ len, len = ss.length := ⟨_, rfl⟩
  have HL := hide hln
  rw [← hln] at hcap hlen HNX HLA HS ⊢
  clear hln
  generalize hE : entsTo ss (mf zs vs) = E at HNX HLE HE0 HS ⊢
  clear hE
  go_enter Try.func24, Try.ntmps24
  go_wp2_with (first | (at_make; refine wpList_make_own _ rfl _ _ 54 rfl w.heap.size 64 i0 _ 3 Try.underlying54 hi0 hz0 hz1 _ _ _ len rfl rfl (by simp) (by rw [hz2]; omega) (by simp [maxLen]; omega) (Nat.le_refl _) ?_; intro w1 hown hgrow) | fail)
  have hb0 : Below w.heap.size w w1 := (Below.refl _ _).grown hgrow (Nat.le_refl _) (fun k h => by cases h)
  clear hgrow
  go_loopw [7, 8] (fun vo vi wr => ∃ k n : Nat, k ≤ len ∧ vi = .int .i64 k ∧ n ≤ k ∧ n = (E k).length ∧ vo = .slice (some ⟨w.heap.size, 0, none⟩) n len ∧ wr.ownsRow w.heap.size 64 3 (.slice (some ⟨w.heap.size, 0, none⟩) n len) n ((E k).flatMap mCells) ∧ Below w.heap.size w wr) (fun _ vi _ => len - (intOf vi).toNat)
  case atStart => exact ⟨0, 0, Nat.zero_le _, rfl, Nat.le_refl _, by rw [unhide HE0]; rfl, rfl, by rw [unhide HE0]; exact hown, hb0⟩
  case round =>
    clear hown hb0
    obtain ⟨k, n, hk, rfl, hnk, hn, rfl, hrow, hbl⟩ := hrel
    have HN := hide hn
    clear hn
    by_cases hlt : k < len
    · have hk' : k < ss.length := by rw [← unhide HL]; exact hlt
      obtain ⟨b, off, rfl, hbw, hc0⟩ := unhide HC k hk'
      have hcell : wr.cell? ⟨b, off + k, none⟩ = some (.string (at_ ss k)) := (hbl.cell hbw).trans hc0
      have hcall := unhide HLA wr hbl k hlt
      have hnx := unhide HNX k
      have hbs := hbl.size
      obtain ⟨z, hz⟩ : ∃ z, zs.getD k 0 = z := ⟨_, rfl⟩
      obtain ⟨pa, pn, pc, hp3⟩ := peers_shape (unhide H3s) k
      have hmf : mf zs vs k = (z, pa, pn, pc) := by unfold mf; rw [hz, hp3]; rfl
      rw [hmf] at hnx
      generalize lastTo ss len k = q0 at hcall hnx
      have hcall' := hcall q0 rfl
      clear hcall hmf
      generalize at_ ss k = s at hcell hcall' hnx
      clear hc0
      have HROW := hide hrow
      have HB := hide hbl
      have HX := hide hnx
      have HCALL := hide hcall'
      have HWR : Hid (Same lo hi w wr.drew) := Same.below hbl.drew hh
      have HZ := hide hz
      have HP3 := hide hp3
      clear hrow hbl hnx hcall' hz hp3 HC HLA HNX
      cases q0 with
      | false =>
        go_wp2_with fail
        refine (unhide HCALL).mono ?_
        rintro e w2 ⟨⟨r, rfl, hr⟩, hw2⟩
        obtain rfl := hw2.symm
        have hr' := hr.out
        go_wp2
        go_roundw
        case rel =>
          refine ⟨k + 1, n, by omega, by go_num, by omega, ?_, rfl, ?_, unhide HB⟩
          · rw [unhide HX, unhide HN]; simp
          · rw [unhide HX]; simpa using unhide HROW
        case measure => simp [intOf]; omega
      | true =>
        go_wp2_with fail
        refine (unhide HCALL).mono ?_
        rintro e w2 ⟨⟨r, rfl, hr⟩, hw2⟩
        obtain rfl := hw2.symm
        obtain rfl : r = k := by simpa using hr.out
        have hcd : (wr.drew.alloc (.cells #[.string s, .int .u64 z, .slice pa pn pc] 64)).cell? ⟨b, off + k, none⟩ = some (.string s) := cell_alloc _ hcell
        go_wp2_with fail
        go_region_held3 (fun w' => w'.cell? ⟨b, off + k, none⟩ = some (.string s)) (first | assumption | go_keep)
          (first
            | (refine step_append_fitsQ (by rfl) _ _ 54 (by rfl) w.heap.size 64 i0 3 Try.underlying54 hi0 hz1 w.heap.size n len _ (by rfl) ((unhide HROW).drew.alloc _) ⟨wr.heap.size, 0, none⟩ 1 1 [.string s, .int .u64 z, .slice pa pn pc] (by rfl) (by rfl) (by intro t u ht; match t, ht with | 0, ht => simp at ht; subst ht; simp [Addr.add] | 1, ht => simp at ht; subst ht; simp [Addr.add] | 2, ht => simp at ht; subst ht; simp [Addr.add]) (by intro u hu; simp at hu; rcases hu with rfl | rfl | rfl <;> rfl) (by omega) ?_; intro w3 hown3 hgrow3; have hc3 : w3.cell? ⟨b, off + k, none⟩ = some (.string s) := (hgrow3.cell hcd (fun e => by have h2 : b = w.heap.size := Option.some.inj e; omega)))
            | (go_at_call 52; refine (seqAt_is' (lo := lo) (hi := hi) (zs := zs) (z := z) ?_ HZ).mono ?_; exact (unhide H2).same (unhide HWR); rintro e w' ⟨rfl, rfl⟩)
            | (go_at_call 53; refine (peersAt_is' (lo := lo) (hi := hi) (vs := vs) ?_ (unhide H3s) HP3).mono ?_; exact (unhide H3).same (unhide HWR); rintro e w' ⟨rfl, rfl⟩))
        go_wp2
        go_roundw
        case rel =>
          refine ⟨k + 1, n + 1, by omega, by go_num, by omega, ?_, rfl, ?_, ?_⟩
          · rw [unhide HX, unhide HN]; simp
          · rw [unhide HX]; simpa [mCells] using hown3
          · exact ((unhide HB).drew.alloc (by simpa using hbs) _).grown hgrow3 (by simp; omega) (fun k h => by cases h; exact Nat.le_refl _)
        case measure => simp [intOf]; omega
    · obtain rfl : k = len := by omega
      have HFIN := hide (ents_own (cells := mCells) (es := E k) mCells_len (by rw [← unhide HN]; exact hrow) (by rw [← unhide HN]; omega) (unhide HS))
      have HB := hide hbl
      clear hrow hbl
      go_wp2
      go_ret
      refine ⟨_, _, _, rfl, ?_, unhide HB⟩
      have := unhide HFIN
      rw [← unhide HN] at this
      exact this

set_option maxRecDepth 100000 in
set_option maxHeartbeats 2000000 in
theorem finalEntries_any (v1 v2 : Value) (ss : List ByteArray) (zs : List Int) (w : World) {lo hi : Nat} (h1 : StrsAt lo hi w v1 ss) (h2 : WordsAt lo hi w v2 zs) (hh : hi ≤ w.heap.size) (hlen : ss.length ≤ 4096) :
    Calls Try.prog 25 #[v1, v2] w fun e w' => ∃ g n c, e = .returned (.slice (some ⟨g, 0, none⟩) n c) ∧ EntsAt 2 fCells w.heap.size w'.heap.size w' (.slice (some ⟨g, 0, none⟩) n c) (entsTo ss (ff zs) ss.length) ∧ Below w.heap.size w w' := by
  obtain ⟨i0, hi0, hz0, hz1, hz2⟩ := info_parts (P := Try.prog) (e := 95) (z := .agg #[.string ByteArray.empty, .int .u64 0]) (size := 2) (bytes := 24) (by kernel_rfl)
  have hsz := entsTo_size (ff zs) h1.2
  obtain ⟨ao, cap, rfl⟩ := h1.shape
  have hcells : ∀ k, k < ss.length → ∃ b off, ao = some ⟨b, off, none⟩ ∧ b < w.heap.size ∧ w.cell? ⟨b, off + k, none⟩ = some (.string (at_ ss k)) := fun k hk => by
    rcases h1.open with ⟨_, _, _, h0, _⟩ | ⟨b, off, cap', hbh, _, hv, _, _, _, hc⟩
    · subst h0; simp at hk
    · cases hv
      exact ⟨b, off, rfl, by omega, hc k hk⟩
  have hcap : ss.length ≤ cap := by
    obtain ⟨⟨_, _, hv, h1, _⟩, _⟩ := h1
    injection hv with e1 e2 e3
    subst e3
    simpa using h1
  have hlast : ∀ wr, Below w.heap.size w wr → ∀ k, k < ss.length → ∀ q, Hid (lastTo ss ss.length k = q) → Calls Try.prog 51 #[.slice ao ss.length cap, .string (at_ ss k)] wr fun e w' => (∃ r, e = .returned (.int .i64 r) ∧ Hid ((r == (k : Int)) = q)) ∧ w' = wr := fun wr hb k hk q hq => lastIdx_at _ ss k wr (h1.same (Same.below hb hh)) hk hq
  have HC := hide hcells
  have HLA := hide hlast
  have HS := hide hsz
  have H2 := hide h2
  clear hcells hlast hsz h1 h2
  have HNX : Hid (∀ k, entsTo ss (ff zs) (k + 1) = entsTo ss (ff zs) k ++ (if lastTo ss ss.length k then [(at_ ss k, ff zs k)] else [])) := fun k => entsTo_succ ss (ff zs) k
  have HLE : Hid (∀ k, (entsTo ss (ff zs) k).length ≤ k) := fun k => entsTo_len ss (ff zs) k
  have HE0 : Hid (entsTo ss (ff zs) 0 = []) := rfl
  obtain ⟨len, hln⟩ : ∃ len, len = ss.length := ⟨_, rfl⟩
  have HL := hide hln
  rw [← hln] at hcap hlen HNX HLA HS ⊢
  clear hln
  generalize hE : entsTo ss (ff zs) = E at HNX HLE HE0 HS ⊢
  clear hE
  go_enter Try.func25, Try.ntmps25
  go_wp2_with (first | (at_make; refine wpList_make_own _ rfl _ _ 56 rfl w.heap.size 95 i0 _ 2 Try.underlying56 hi0 hz0 hz1 _ _ _ len rfl rfl (by simp) (by rw [hz2]; omega) (by simp [maxLen]; omega) (Nat.le_refl _) ?_; intro w1 hown hgrow) | fail)
  have hb0 : Below w.heap.size w w1 := (Below.refl _ _).grown hgrow (Nat.le_refl _) (fun k h => by cases h)
  clear hgrow
  go_loopw [5, 6] (fun vo vi wr => ∃ k n : Nat, k ≤ len ∧ vi = .int .i64 k ∧ n ≤ k ∧ n = (E k).length ∧ vo = .slice (some ⟨w.heap.size, 0, none⟩) n len ∧ wr.ownsRow w.heap.size 95 2 (.slice (some ⟨w.heap.size, 0, none⟩) n len) n ((E k).flatMap fCells) ∧ Below w.heap.size w wr) (fun _ vi _ => len - (intOf vi).toNat)
  case atStart => exact ⟨0, 0, Nat.zero_le _, rfl, Nat.le_refl _, by rw [unhide HE0]; rfl, rfl, by rw [unhide HE0]; exact hown, hb0⟩
  case round =>
    clear hown hb0
    obtain ⟨k, n, hk, rfl, hnk, hn, rfl, hrow, hbl⟩ := hrel
    have HN := hide hn
    clear hn
    by_cases hlt : k < len
    · have hk' : k < ss.length := by rw [← unhide HL]; exact hlt
      obtain ⟨b, off, rfl, hbw, hc0⟩ := unhide HC k hk'
      have hcell : wr.cell? ⟨b, off + k, none⟩ = some (.string (at_ ss k)) := (hbl.cell hbw).trans hc0
      have hcall := unhide HLA wr hbl k hlt
      have hnx := unhide HNX k
      have hbs := hbl.size
      obtain ⟨z, hz⟩ : ∃ z, zs.getD k 0 = z := ⟨_, rfl⟩
      have hmf : ff zs k = z := hz
      rw [hmf] at hnx
      generalize lastTo ss len k = q0 at hcall hnx
      have hcall' := hcall q0 rfl
      clear hcall hmf
      generalize at_ ss k = s at hcell hcall' hnx
      clear hc0
      have HROW := hide hrow
      have HB := hide hbl
      have HX := hide hnx
      have HCALL := hide hcall'
      have HWR : Hid (Same lo hi w wr.drew) := Same.below hbl.drew hh
      have HZ := hide hz
      clear hrow hbl hnx hcall' hz HC HLA HNX
      cases q0 with
      | false =>
        go_wp2_with fail
        refine (unhide HCALL).mono ?_
        rintro e w2 ⟨⟨r, rfl, hr⟩, hw2⟩
        obtain rfl := hw2.symm
        have hr' := hr.out
        go_wp2
        go_roundw
        case rel =>
          refine ⟨k + 1, n, by omega, by go_num, by omega, ?_, rfl, ?_, unhide HB⟩
          · rw [unhide HX, unhide HN]; simp
          · rw [unhide HX]; simpa using unhide HROW
        case measure => simp [intOf]; omega
      | true =>
        go_wp2_with fail
        refine (unhide HCALL).mono ?_
        rintro e w2 ⟨⟨r, rfl, hr⟩, hw2⟩
        obtain rfl := hw2.symm
        obtain rfl : r = k := by simpa using hr.out
        have hcd : (wr.drew.alloc (.cells #[.string s, .int .u64 z] 95)).cell? ⟨b, off + k, none⟩ = some (.string s) := cell_alloc _ hcell
        go_wp2_with fail
        go_region_held3 (fun w' => w'.cell? ⟨b, off + k, none⟩ = some (.string s)) (first | assumption | go_keep)
          (first
            | (refine step_append_fitsQ (by rfl) _ _ 56 (by rfl) w.heap.size 95 i0 2 Try.underlying56 hi0 hz1 w.heap.size n len _ (by rfl) ((unhide HROW).drew.alloc _) ⟨wr.heap.size, 0, none⟩ 1 1 [.string s, .int .u64 z] (by rfl) (by rfl) (by intro t u ht; match t, ht with | 0, ht => simp at ht; subst ht; simp [Addr.add] | 1, ht => simp at ht; subst ht; simp [Addr.add]) (by intro u hu; simp at hu; rcases hu with rfl | rfl <;> rfl) (by omega) ?_; intro w3 hown3 hgrow3; have hc3 : w3.cell? ⟨b, off + k, none⟩ = some (.string s) := (hgrow3.cell hcd (fun e => by have h2 : b = w.heap.size := Option.some.inj e; omega)))
            | (go_at_call 52; refine (seqAt_is' (lo := lo) (hi := hi) (zs := zs) (z := z) ?_ HZ).mono ?_; exact (unhide H2).same (unhide HWR); rintro e w' ⟨rfl, rfl⟩))
        go_wp2
        go_roundw
        case rel =>
          refine ⟨k + 1, n + 1, by omega, by go_num, by omega, ?_, rfl, ?_, ?_⟩
          · rw [unhide HX, unhide HN]; simp
          · rw [unhide HX]; simpa [fCells] using hown3
          · exact ((unhide HB).drew.alloc (by simpa using hbs) _).grown hgrow3 (by simp; omega) (fun k h => by cases h; exact Nat.le_refl _)
        case measure => simp [intOf]; omega
    · obtain rfl : k = len := by omega
      have HFIN := hide (ents_own (cells := fCells) (es := E k) fCells_len (by rw [← unhide HN]; exact hrow) (by rw [← unhide HN]; omega) (unhide HS))
      have HB := hide hbl
      clear hrow hbl
      go_wp2
      go_ret
      refine ⟨_, _, _, rfl, ?_, unhide HB⟩
      have := unhide HFIN
      rw [← unhide HN] at this
      exact this

end Go.Proofs.Qxb6601448a
