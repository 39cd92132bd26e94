/- The walks of cloneStrs, cloneWords, cloneNested. -/
import Derived.Test.Qxb6601448aBytes
import Derived.WalkSpells
namespace Go.Proofs.Qxb6601448a
open Go.RowKit
set_option linter.unusedVariables false

/-- The first k of xs, then z. -/
def fillTo (xs : List Value) (z : Value) (k : Nat) : List Value := xs.take k ++ List.replicate (xs.length - k) z

theorem fillTo_zero (xs : List Value) (z : Value) : fillTo xs z 0 = List.replicate xs.length z := by simp [fillTo]
theorem fillTo_all (xs : List Value) (z : Value) : fillTo xs z xs.length = xs := by simp [fillTo]
theorem fillTo_length (xs : List Value) (z : Value) (k : Nat) (h : k ≤ xs.length) : (fillTo xs z k).length = xs.length := by simp [fillTo]; omega
theorem fillTo_get (xs : List Value) (z : Value) (k i : Nat) (h : k ≤ xs.length) : (fillTo xs z k)[i]? = if i < k then xs[i]? else if i < xs.length then some z else none := by
  unfold fillTo
  by_cases h1 : i < k
  · rw [if_pos h1, List.getElem?_append_left (by simp; omega), List.getElem?_take, if_pos h1]
  · rw [if_neg h1, List.getElem?_append_right (by simp; omega), List.getElem?_replicate, List.length_take, Nat.min_eq_left h]
    by_cases h2 : i < xs.length
    · rw [if_pos h2, if_pos (by omega)]
    · rw [if_neg h2, if_neg (by omega)]
theorem fillTo_at (xs : List Value) (z : Value) (k : Nat) (h : k < xs.length) : (fillTo xs z k)[k]? = some z := by
  rw [fillTo_get xs z k k (by omega), if_neg (by omega), if_pos h]
theorem fillTo_set (xs : List Value) (z : Value) (k : Nat) (h : k < xs.length) : (fillTo xs z k).set k (xs.getD k undef) = fillTo xs z (k + 1) := by
  apply List.ext_getElem?
  intro i
  rw [fillTo_get xs z (k + 1) i (by omega), List.getElem?_set]
  by_cases hi : k = i
  · subst hi
    rw [if_pos rfl, fillTo_length xs z k (by omega), if_pos h, if_pos (by omega)]
    simp [List.getD, h]
  · rw [if_neg hi, fillTo_get xs z k i (by omega)]
    by_cases h1 : i < k
    · rw [if_pos h1, if_pos (by omega)]
    · rw [if_neg h1, if_neg (show ¬ i < k + 1 by omega)]

theorem info9 : (Try.prog.info? 9).map (fun i => (i.zero, i.size, i.bytes)) = some (some (.string ByteArray.empty), 1, 16) := by kernel_rfl
theorem info22 : (Try.prog.info? 22).map (fun i => (i.zero, i.size, i.bytes)) = some (some (.int .u64 0), 1, 8) := by kernel_rfl
theorem info23 : (Try.prog.info? 23).map (fun i => (i.zero, i.size, i.bytes)) = some (some (.slice none 0 0), 1, 24) := by kernel_rfl

theorem ownsRow_lt {w : World} {base : Nat} {e : TypeId} {size g n cap : Nat} {xs : List Value} (h : w.ownsRow base e size (.slice (some ⟨g, 0, none⟩) n cap) n xs) : g < w.heap.size ∧ base ≤ g := by
  rcases h.2 with ⟨h', _⟩ | ⟨g', cap', cur, h', hb, hg, hl, _⟩
  · cases h'
  · cases h'; exact ⟨(Array.getElem?_eq_some_iff.1 hg).1, hb⟩

/-- A row of the call's own, as a slice. -/
theorem RowAt.own {sz base lo : Nat} {e : TypeId} {w : World} {g cap : Nat} {xs : List Value} (h : w.ownsRow base e 1 (.slice (some ⟨g, 0, none⟩) xs.length cap) xs.length xs) (hb : xs.length * sz ≤ 140737488351232) (hlo : lo ≤ g) : RowAt sz lo w.heap.size w (.slice (some ⟨g, 0, none⟩) xs.length cap) xs := by
  have hle : xs.length ≤ cap := by
    rcases h.2 with ⟨h', _⟩ | ⟨g', cap', cur, h', _, hg, hl, _⟩
    · cases h'
    · cases h'; exact hl
  refine ⟨_, _, rfl, hle, hb, ?_⟩
  by_cases hx : xs = []
  · exact Or.inr (Or.inl ⟨hx, _, rfl⟩)
  · refine Or.inr (Or.inr ⟨g, 0, rfl, hlo, (ownsRow_lt h).1, hx, fun i hi => ?_⟩)
    rw [Nat.zero_add, h.cellAt i (by omega)]
    simp [List.getD, hi]

set_option maxHeartbeats 400000 in
theorem cloneStrs_any (v : Value) (ss : List ByteArray) (w : World) {lo hi : Nat} (h : StrsAt lo hi w v ss) (hh : hi ≤ w.heap.size) :
    Calls Try.prog 44 #[v] w fun e w' => ∃ v', e = .returned v' ∧ StrsAt w.heap.size w'.heap.size w' v' ss ∧ Below w.heap.size w w' := by
  have q23 : ∀ (w : World) (a : Option Addr) (n c n' c' : Nat), (binOp .eql 23 (.slice a n c) (.slice none n' c')).run Try.prog w = .ok (.bool a.isNone) w := fun w a n c n' c' => Lib.run_eql_slice_nil w _ _ a n c n' c' Try.underlying23
  obtain ⟨i0, hi, hz0, hz1, hz2⟩ := info_parts info9
  have hwf := h.2
  rcases h.open with ⟨ao, cap, rfl, rfl, hn⟩ | ⟨b, off, cap, hbh, hbl0, rfl, hp, hcap, hb, hc⟩
  · cases ao with
    | none =>
      clear h hwf
      go_enter Try.func44, Try.ntmps44
      go_wp2
      go_ret
      exact ⟨_, rfl, ⟨⟨none, 0, rfl, Nat.le_refl _, by simp, Or.inl ⟨rfl, rfl, rfl⟩⟩, by simp⟩, Below.refl _ _⟩
    | some x =>
      clear h hwf
      go_enter Try.func44, Try.ntmps44
      go_wp2_with (first | (at_make; refine wpList_make_full _ rfl _ _ 23 rfl w.heap.size 9 i0 (.string ByteArray.empty) 1 Try.underlying23 hi hz0 hz1 _ _ _ _ 0 rfl rfl (by simp) (by simp) (by simp) (by simp [maxLen]) (Nat.le_refl _) ?_; intro w1 hown hgrow) | fail)
      refine wp_loop_rounds 1 ?_
      rw [rounds_succ]
      go_wp2
      go_ret
      exact ⟨_, rfl, ⟨⟨_, 0, rfl, Nat.le_refl _, by simp, Or.inr (Or.inl ⟨rfl, _, rfl⟩)⟩, by simp⟩, (Below.refl _ _).grown hgrow (Nat.le_refl _) (by simp)⟩
  · have hcs : ∀ i, i < ss.length → w.cell? ⟨b, off + i, none⟩ = some ((ss.map Value.string).getD i undef) := fun i hi => by rw [hc i hi]; simp [List.getD, hi]
    have hxl : (ss.map Value.string).length = ss.length := by simp
    have hbB : b < w.heap.size := by omega
    clear h hc
    obtain ⟨xs, hxs⟩ : ∃ xs, xs = ss.map Value.string := ⟨_, rfl⟩
    have hstr : ∀ i, i < ss.length → ∃ s, xs.getD i undef = .string s := fun i hi => ⟨ss.getD i ByteArray.empty, by rw [hxs]; simp [List.getD, hi]⟩
    rw [← hxs] at hcs hxl
    have HX : Hid (xs = ss.map Value.string) := hxs
    clear hxs
    generalize hlen : ss.length = len at *
    have HL : Hid (xs.length = len) := hxl
    have HL2 : Hid (ss.length = len) := hlen
    clear hxl hlen
    go_enter Try.func44, Try.ntmps44
    go_wp2_with (first | (at_make; refine wpList_make_full _ rfl _ _ 23 rfl w.heap.size 9 i0 (.string ByteArray.empty) 1 Try.underlying23 hi hz0 hz1 _ _ _ _ len rfl rfl (by simp) (by simp) (by rw [hz2]; omega) (by simp [maxLen]; omega) (Nat.le_refl _) ?_; intro w1 hown hgrow) | fail)
    go_loopw [4] (fun i wr => ∃ k : Nat, k ≤ len ∧ i = .int .i64 k ∧ wr.ownsRow w.heap.size 9 1 (.slice (some ⟨w.heap.size, 0, none⟩) len len) len (fillTo xs (.string ByteArray.empty) k) ∧ Below w.heap.size w wr) (fun i _ => len - (intOf i).toNat)
    case atStart =>
      refine ⟨0, Nat.zero_le _, rfl, ?_, (Below.refl _ _).grown hgrow (Nat.le_refl _) (by simp)⟩
      rw [fillTo_zero, HL.out]
      simpa [Value.cells, toList_madeCells_one] using hown
    case round =>
      obtain ⟨k, hk, rfl, hrow, hbl⟩ := hrel
      by_cases hlt : k < len
      · obtain ⟨s, hs⟩ := hstr k hlt
        have hcell : wr.cell? ⟨b, off + k, none⟩ = some (.string s) := by rw [hbl.cell hbB, hcs k hlt, hs]
        have hd : wr.cell? ⟨w.heap.size, k, none⟩ = some (.string ByteArray.empty) := by rw [hrow.cellAt k (by omega)]; exact fillTo_at _ _ _ (by rw [HL.out]; exact hlt)
        have hf := hrow.frozenAt k
        have hst := hrow.stored k (.string s)
        rw [← hs, fillTo_set _ _ _ (by rw [HL.out]; exact hlt), hs] at hst
        have HST := hide hst
        have HS : Hid (xs.getD k undef = .string s) := hs
        clear hst hs hcs hstr hrow
        go_wp2
        go_roundw
        case rel => exact ⟨k + 1, by omega, by go_num, (unhide HST).1, hbl.setCell (by simp) _⟩
        case measure => simp [intOf]; omega
      · have hkl : k = len := by omega
        subst hkl
        rw [← HL.out, fillTo_all] at hrow
        have hR : RowAt 16 w.heap.size wr.heap.size wr (.slice (some ⟨w.heap.size, 0, none⟩) k k) xs := by have := RowAt.own (sz := 16) hrow (by rw [HL.out]; exact hb) (Nat.le_refl _); rwa [HL.out] at this
        have HR := hide hR
        clear hR hrow hcs hstr
        go_wp2
        go_ret
        exact ⟨_, rfl, ⟨HX.out ▸ unhide HR, hwf⟩, hbl⟩

set_option maxHeartbeats 400000 in
theorem cloneWords_any (v : Value) (ss : List Int) (w : World) {lo hi : Nat} (h : WordsAt lo hi w v ss) (hh : hi ≤ w.heap.size) :
    Calls Try.prog 45 #[v] w fun e w' => ∃ v', e = .returned v' ∧ WordsAt w.heap.size w'.heap.size w' v' ss ∧ Below w.heap.size w w' := by
  have q24 : ∀ (w : World) (a : Option Addr) (n c n' c' : Nat), (binOp .eql 24 (.slice a n c) (.slice none n' c')).run Try.prog w = .ok (.bool a.isNone) w := fun w a n c n' c' => Lib.run_eql_slice_nil w _ _ a n c n' c' Try.underlying24
  obtain ⟨i0, hi, hz0, hz1, hz2⟩ := info_parts info22
  have hwf := h.2
  rcases h.open with ⟨ao, cap, rfl, rfl, hn⟩ | ⟨b, off, cap, hbh, hbl0, rfl, hp, hcap, hb, hc⟩
  · cases ao with
    | none =>
      clear h hwf
      go_enter Try.func45, Try.ntmps45
      go_wp2
      go_ret
      exact ⟨_, rfl, ⟨⟨none, 0, rfl, Nat.le_refl _, by simp, Or.inl ⟨rfl, rfl, rfl⟩⟩, by simp⟩, Below.refl _ _⟩
    | some x =>
      clear h hwf
      go_enter Try.func45, Try.ntmps45
      go_wp2_with (first | (at_make; refine wpList_make_full _ rfl _ _ 24 rfl w.heap.size 22 i0 (.int .u64 0) 1 Try.underlying24 hi hz0 hz1 _ _ _ _ 0 rfl rfl (by simp) (by simp) (by simp) (by simp [maxLen]) (Nat.le_refl _) ?_; intro w1 hown hgrow) | fail)
      refine wp_loop_rounds 1 ?_
      rw [rounds_succ]
      go_wp2
      go_ret
      exact ⟨_, rfl, ⟨⟨_, 0, rfl, Nat.le_refl _, by simp, Or.inr (Or.inl ⟨rfl, _, rfl⟩)⟩, by simp⟩, (Below.refl _ _).grown hgrow (Nat.le_refl _) (by simp)⟩
  · have hcs : ∀ i, i < ss.length → w.cell? ⟨b, off + i, none⟩ = some ((ss.map (Value.int .u64)).getD i undef) := fun i hi => by rw [hc i hi]; simp [List.getD, hi]
    have hxl : (ss.map (Value.int .u64)).length = ss.length := by simp
    have hbB : b < w.heap.size := by omega
    clear h hc
    obtain ⟨xs, hxs⟩ : ∃ xs, xs = ss.map (Value.int .u64) := ⟨_, rfl⟩
    have hstr : ∀ i, i < ss.length → ∃ s, xs.getD i undef = .int .u64 s := fun i hi => ⟨ss.getD i 0, by rw [hxs]; simp [List.getD, hi]⟩
    rw [← hxs] at hcs hxl
    have HX : Hid (xs = ss.map (Value.int .u64)) := hxs
    clear hxs
    generalize hlen : ss.length = len at *
    have HL : Hid (xs.length = len) := hxl
    have HL2 : Hid (ss.length = len) := hlen
    clear hxl hlen
    go_enter Try.func45, Try.ntmps45
    go_wp2_with (first | (at_make; refine wpList_make_full _ rfl _ _ 24 rfl w.heap.size 22 i0 (.int .u64 0) 1 Try.underlying24 hi hz0 hz1 _ _ _ _ len rfl rfl (by simp) (by simp) (by rw [hz2]; omega) (by simp [maxLen]; omega) (Nat.le_refl _) ?_; intro w1 hown hgrow) | fail)
    go_loopw [4] (fun i wr => ∃ k : Nat, k ≤ len ∧ i = .int .i64 k ∧ wr.ownsRow w.heap.size 22 1 (.slice (some ⟨w.heap.size, 0, none⟩) len len) len (fillTo xs (.int .u64 0) k) ∧ Below w.heap.size w wr) (fun i _ => len - (intOf i).toNat)
    case atStart =>
      refine ⟨0, Nat.zero_le _, rfl, ?_, (Below.refl _ _).grown hgrow (Nat.le_refl _) (by simp)⟩
      rw [fillTo_zero, HL.out]
      simpa [Value.cells, toList_madeCells_one] using hown
    case round =>
      obtain ⟨k, hk, rfl, hrow, hbl⟩ := hrel
      by_cases hlt : k < len
      · obtain ⟨s, hs⟩ := hstr k hlt
        have hcell : wr.cell? ⟨b, off + k, none⟩ = some (.int .u64 s) := by rw [hbl.cell hbB, hcs k hlt, hs]
        have hd : wr.cell? ⟨w.heap.size, k, none⟩ = some (.int .u64 0) := by rw [hrow.cellAt k (by omega)]; exact fillTo_at _ _ _ (by rw [HL.out]; exact hlt)
        have hf := hrow.frozenAt k
        have hst := hrow.stored k (.int .u64 s)
        rw [← hs, fillTo_set _ _ _ (by rw [HL.out]; exact hlt), hs] at hst
        have HST := hide hst
        have HS : Hid (xs.getD k undef = .int .u64 s) := hs
        clear hst hs hcs hstr hrow
        go_wp2
        go_roundw
        case rel => exact ⟨k + 1, by omega, by go_num, (unhide HST).1, hbl.setCell (by simp) _⟩
        case measure => simp [intOf]; omega
      · have hkl : k = len := by omega
        subst hkl
        rw [← HL.out, fillTo_all] at hrow
        have hR : RowAt 8 w.heap.size wr.heap.size wr (.slice (some ⟨w.heap.size, 0, none⟩) k k) xs := by have := RowAt.own (sz := 8) hrow (by rw [HL.out]; exact hb) (Nat.le_refl _); rwa [HL.out] at this
        have HR := hide hR
        clear hR hrow hcs hstr
        go_wp2
        go_ret
        exact ⟨_, rfl, ⟨HX.out ▸ unhide HR, hwf⟩, hbl⟩

theorem ownsRow_below {w w' : World} {base : Nat} {e : TypeId} {size : Nat} {v : Value} {n : Nat} {xs : List Value} (h : w.ownsRow base e size v n xs) {B : Nat} (hb : Below B w w') (hB : w.heap.size ≤ B) : w'.ownsRow base e size v n xs := by
  obtain ⟨h1, h2⟩ := h
  refine ⟨h1, ?_⟩
  rcases h2 with h2 | ⟨g, cap, cur, hv, hg, hh, r⟩
  · exact Or.inl h2
  · exact Or.inr ⟨g, cap, cur, hv, hg, by rw [hb.block g (by have := (Array.getElem?_eq_some_iff.1 hh).1; omega)]; exact hh, r⟩

theorem app_at {us : List Value} {z : Value} {k len : Nat} (h : us.length = k) (hk : k < len) : (us ++ List.replicate (len - k) z)[k]? = some z := by
  rw [List.getElem?_append_right (by omega), h, Nat.sub_self, List.getElem?_replicate, if_pos (by omega)]

theorem app_set {us : List Value} {z u : Value} {k len : Nat} (h : us.length = k) (hk : k < len) : (us ++ List.replicate (len - k) z).set k u = (us ++ [u]) ++ List.replicate (len - (k + 1)) z := by
  rw [show len - k = (len - (k + 1)) + 1 by omega, List.replicate_succ, List.set_append_right _ _ (by omega), h, Nat.sub_self]
  simp

set_option maxHeartbeats 400000 in
theorem cloneNested_any (v : Value) (sss : List (List ByteArray)) (w : World) {lo hi : Nat} (h : NestAt lo hi w v sss) (hh : hi ≤ w.heap.size) :
    Calls Try.prog 46 #[v] w fun e w' => ∃ v', e = .returned v' ∧ NestAt w.heap.size w'.heap.size w' v' sss ∧ Below w.heap.size w w' := by
  have q25 : ∀ (w : World) (a : Option Addr) (n c n' c' : Nat), (binOp .eql 25 (.slice a n c) (.slice none n' c')).run Try.prog w = .ok (.bool a.isNone) w := fun w a n c n' c' => Lib.run_eql_slice_nil w _ _ a n c n' c' Try.underlying25
  obtain ⟨i0, hi, hz0, hz1, hz2⟩ := info_parts info23
  obtain ⟨vs, hr, he⟩ := h
  have hes := he.2
  have hel := he.1
  rcases hr.open with ⟨ao, cap, rfl, rfl, hn⟩ | ⟨b, off, cap, hbh, hbl0, rfl, hp, hcap, hb, hc⟩
  · have hs0 : sss = [] := List.length_eq_zero_iff.1 (by simpa using hel.symm)
    subst hs0
    cases ao with
    | none =>
      clear hr he hes hel
      go_enter Try.func46, Try.ntmps46
      go_wp2
      go_ret
      exact ⟨_, rfl, ⟨[], ⟨none, 0, rfl, Nat.le_refl _, by simp, Or.inl ⟨rfl, rfl, rfl⟩⟩, rfl, by simp⟩, Below.refl _ _⟩
    | some x =>
      clear hr he hes hel
      go_enter Try.func46, Try.ntmps46
      go_wp2_with (first | (at_make; refine wpList_make_full _ rfl _ _ 25 rfl w.heap.size 23 i0 (.slice none 0 0) 1 Try.underlying25 hi hz0 hz1 _ _ _ _ 0 rfl rfl (by simp) (by simp) (by simp) (by simp [maxLen]) (Nat.le_refl _) ?_; intro w1 hown hgrow) | fail)
      refine wp_loop_rounds 1 ?_
      rw [rounds_succ]
      go_wp2
      go_ret
      exact ⟨_, rfl, ⟨[], ⟨_, 0, rfl, Nat.le_refl _, by simp, Or.inr (Or.inl ⟨rfl, _, rfl⟩)⟩, rfl, by simp⟩, (Below.refl _ _).grown hgrow (Nat.le_refl _) (by simp)⟩
  · have hbB : b < w.heap.size := by omega
    clear hr he
    have HEL : Hid (vs.length = sss.length) := hel
    clear hel
    generalize hlen : vs.length = len at *
    clear hlen
    go_enter Try.func46, Try.ntmps46
    go_wp2_with (first | (at_make; refine wpList_make_full _ rfl _ _ 25 rfl w.heap.size 23 i0 (.slice none 0 0) 1 Try.underlying25 hi hz0 hz1 _ _ _ _ len rfl rfl (by simp) (by simp) (by rw [hz2]; omega) (by simp [maxLen]; omega) (Nat.le_refl _) ?_; intro w1 hown hgrow) | fail)
    go_loopw [4] (fun i wr => ∃ k : Nat, k ≤ len ∧ i = .int .i64 k ∧ (∃ us : List Value, us.length = k ∧ wr.ownsRow w.heap.size 23 1 (.slice (some ⟨w.heap.size, 0, none⟩) len len) len (us ++ List.replicate (len - k) (.slice none 0 0)) ∧ (∀ j, j < k → StrsAt (w.heap.size + 1) wr.heap.size wr (us.getD j undef) (sss.getD j []))) ∧ w.heap.size + 1 ≤ wr.heap.size ∧ Below w.heap.size w wr) (fun i _ => len - (intOf i).toNat)
    case atStart =>
      refine ⟨0, Nat.zero_le _, rfl, ⟨[], rfl, ?_, fun j hj => absurd hj (Nat.not_lt_zero _)⟩, (ownsRow_lt hown).1, (Below.refl _ _).grown hgrow (Nat.le_refl _) (by simp)⟩
      simpa [Value.cells, toList_madeCells_one] using hown
    case round =>
      obtain ⟨k, hk, rfl, ⟨us, hul, hrow, hus⟩, hgt, hbl⟩ := hrel
      by_cases hlt : k < len
      · have hsrc := (hes k hlt).same (Same.below hbl hh)
        have hcell : wr.cell? ⟨b, off + k, none⟩ = some (vs.getD k undef) := by rw [hbl.cell hbB, hc k hlt]
        generalize vs.getD k undef = u at hsrc hcell
        obtain ⟨ua, un, uc, rfl⟩ : ∃ ua un uc, u = .slice ua un uc := let ⟨ua, uc, hu⟩ := hsrc.shape; ⟨ua, _, uc, hu⟩
        obtain ⟨sk, hsk⟩ : ∃ sk, sk = sss.getD k [] := ⟨_, rfl⟩
        rw [← hsk] at hsrc
        have HSK := hide hsk
        clear hsk
        have HC : Hid (∀ i, i < len → w.cell? ⟨b, off + i, none⟩ = some (vs.getD i undef)) := hc
        have HROW := hide hrow
        have HUS := hide hus
        have HUL := hide hul
        clear hc hes hrow hus hul
        go_wp2_with fail
        refine (cloneStrs_any _ _ _ hsrc (by have := hbl.size; omega)).mono ?_
        rintro e w2 ⟨v', rfl, hst', hb2⟩
        have hrow2 := ownsRow_below (unhide HROW) hb2 (Nat.le_refl _)
        have hd : w2.cell? ⟨w.heap.size, k, none⟩ = some (.slice none 0 0) := by
          rw [hrow2.cellAt k (by omega)]
          exact app_at (unhide HUL) hlt
        have hf := hrow2.frozenAt k
        obtain ⟨va, vn, vc, hv'⟩ : ∃ va vn vc, v' = .slice va vn vc := let ⟨ua, uc, hu⟩ := hst'.shape; ⟨ua, _, uc, hu⟩
        rw [hv'] at hst' ⊢
        clear hv'
        have hst2 := hrow2.stored k (.slice va vn vc)
        have hset := app_set (z := .slice none 0 0) (u := .slice va vn vc) (unhide HUL) hlt
        rw [hset] at hst2
        have hsz2 : (w2.setCell ⟨w.heap.size, k, none⟩ (.slice va vn vc)).heap.size = w2.heap.size := by simp [World.setCell]
        have hall : ∀ j, j < k + 1 → StrsAt (w.heap.size + 1) (w2.setCell ⟨w.heap.size, k, none⟩ (.slice va vn vc)).heap.size (w2.setCell ⟨w.heap.size, k, none⟩ (.slice va vn vc)) ((us ++ [Value.slice va vn vc]).getD j undef) (sss.getD j []) := fun j hj => by
          rw [hsz2]
          by_cases hjk : j < k
          · have := (((unhide HUS j hjk).same (Same.below hb2 (Nat.le_refl _))).mono (Nat.le_refl _) hb2.size).same ((Same.refl _ _ _).setCell ⟨w.heap.size, k, none⟩ (.slice va vn vc) (Or.inl (by simp)))
            simpa [List.getD, List.getElem?_append_left (show j < us.length by rw [unhide HUL]; exact hjk)] using this
          · obtain rfl : j = k := by omega
            have := (hst'.mono hgt (Nat.le_refl _)).same ((Same.refl _ _ _).setCell ⟨w.heap.size, j, none⟩ (.slice va vn vc) (Or.inl (by simp)))
            rw [unhide HSK] at this
            simpa [List.getD, List.getElem?_append_right (show us.length ≤ j by rw [unhide HUL]; exact Nat.le_refl _), unhide HUL] using this
        have HSZ2 := hide hsz2
        clear hsz2
        have HS2 := hide hst2.1
        have HALL := hide hall
        clear hst2 hall hset hrow2 hst'
        go_wp2
        go_roundw
        case rel => exact ⟨k + 1, by omega, by go_num, ⟨_, by simp [unhide HUL], unhide HS2, unhide HALL⟩, by rw [unhide HSZ2]; have := hb2.size; omega, (hbl.trans (hb2.mono hbl.size)).setCell (by simp) _⟩
        case measure => simp [intOf]; omega
      · have hkl : k = len := by omega
        subst hkl
        rw [Nat.sub_self, List.replicate_zero, List.append_nil] at hrow
        have hR : RowAt 24 w.heap.size wr.heap.size wr (.slice (some ⟨w.heap.size, 0, none⟩) k k) us := by have := RowAt.own (sz := 24) (xs := us) (by rw [hul]; exact hrow) (by rw [hul]; exact hb) (Nat.le_refl _); rwa [hul] at this
        have hE : StrsEach w.heap.size wr.heap.size wr us sss := ⟨by rw [hul]; exact HEL.out, fun i hi => (hus i (by omega)).mono (by omega) (Nat.le_refl _)⟩
        have HR := hide hR
        have HE := hide hE
        clear hR hrow hc hus hes hE hul
        go_wp2
        go_ret
        exact ⟨_, rfl, ⟨us, unhide HR, unhide HE⟩, hbl⟩

end Go.Proofs.Qxb6601448a
