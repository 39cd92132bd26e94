/- Maps of strings to markers and to words; the walks of buildMarkers and buildFinals. -/
import Derived.Test.Qxb6601448aCopy
import Derived.Maps.OwnSet
namespace Go.Proofs.Qxb6601448a
open Go.RowKit
open Go.Maps (Keyed)
set_option linter.unusedVariables false

/-- How a marker in a map is read: as it stands. -/
def mkR : Value → Option (DataW Value × List MemPlace)
  | .agg cs => match cs.toList with
    | [.int .u64 s, .slice a n c] => some (.held (.agg #[.int .u64 s, .slice a n c]), [])
    | _ => none
  | _ => none

theorem mkR_mk (s : Int) (a : Option Addr) (n c : Nat) : mkR (.agg #[.int .u64 s, .slice a n c]) = some (.held (.agg #[.int .u64 s, .slice a n c]), []) := rfl

theorem mkR_inv {v : Value} {y : DataW Value × List MemPlace} (h : mkR v = some y) : ∃ (s : Int) (a : Option Addr) (n c : Nat), v = .agg #[.int .u64 s, .slice a n c] ∧ y = (.held v, []) := by
  unfold mkR at h
  split at h
  · rename_i cs
    split at h
    · rename_i s a n c hcs
      have : cs = #[.int .u64 s, .slice a n c] := by rw [← hcs]
      subst this
      cases h
      exact ⟨s, a, n, c, rfl, rfl⟩
    · cases h
  · cases h

/-- How a word in a map is read: as it stands. -/
def fiR : Value → Option (DataW Value × List MemPlace)
  | .int .u64 z => some (.held (.int .u64 z), [])
  | _ => none

theorem fiR_mk (z : Int) : fiR (.int .u64 z) = some (.held (.int .u64 z), []) := rfl
theorem fiR_inv {v : Value} {y : DataW Value × List MemPlace} (h : fiR v = some y) : ∃ z : Int, v = .int .u64 z ∧ y = (.held v, []) := by
  unfold fiR at h
  split at h
  · cases h; exact ⟨_, rfl, rfl⟩
  · cases h

theorem law9 : Keyed Try.prog 9 := Maps.string_keyed Try.underlying9

/-- A string as a map's key. -/
def key (s : ByteArray) : Lit := .string s.data.toList
theorem keyOf9 {s : ByteArray} (h : s.size ≤ maxLen) : keyOf Try.prog 9 (.string s) = some (key s) := WideMaps.keyOf_string_mk Try.underlying9 h

/-- The map that the assignments es make, one after the other. -/
def mapOf (es : List (ByteArray × Value)) : DataW Value := es.foldl (fun D p => D.put (key p.1) (.held p.2)) (.map [])
theorem mapOf_snoc (es : List (ByteArray × Value)) (s : ByteArray) (v : Value) : mapOf (es ++ [(s, v)]) = (mapOf es).put (key s) (.held v) := by simp [mapOf, List.foldl_append]

/-- mo is a map value that reads as D: nil, or a block from lo on, below hi, of at most n entries. -/
def MapIs (R : Value → Option (DataW Value × List MemPlace)) (lo hi : Nat) (w : World) (mo : Option Nat) (n : Nat) (D : DataW Value) : Prop :=
  match mo with
  | none => D = .map []
  | some b => lo ≤ b ∧ b < hi ∧ w.ownsMap Try.prog 9 R b n D

theorem ownsMap_block {R : Value → Option (DataW Value × List MemPlace)} {w w' : World} {b n : Nat} {D : DataW Value} (h : w.ownsMap Try.prog 9 R b n D) (hb : w'.heap[b]? = w.heap[b]?) : w'.ownsMap Try.prog 9 R b n D := by
  obtain ⟨es, clock, h1, h2⟩ := h
  exact ⟨es, clock, hb.trans h1, h2⟩

theorem MapIs.same {R : Value → Option (DataW Value × List MemPlace)} {lo hi : Nat} {w w' : World} {mo : Option Nat} {n : Nat} {D : DataW Value} (h : MapIs R lo hi w mo n D) (hs : Same lo hi w w') : MapIs R lo hi w' mo n D := by
  cases mo with
  | none => exact h
  | some b => exact ⟨h.1, h.2.1, ownsMap_block h.2.2 (hs b h.1 h.2.1)⟩

theorem MapIs.mono {R : Value → Option (DataW Value × List MemPlace)} {lo hi lo' hi' : Nat} {w : World} {mo : Option Nat} {n : Nat} {D : DataW Value} (h : MapIs R lo hi w mo n D) (h1 : lo' ≤ lo) (h2 : hi ≤ hi') : MapIs R lo' hi' w mo n D := by
  cases mo with
  | none => exact h
  | some b => exact ⟨by have := h.1; omega, by have := h.2.1; omega, h.2.2⟩

/-- The markers that the three lists give, in their order. -/
def marks (ss : List ByteArray) (zs : List Int) (vs : List Value) : List (ByteArray × Value) :=
  (List.range ss.length).map fun i => (ss.getD i ByteArray.empty, .agg #[.int .u64 (zs.getD i 0), vs.getD i (.slice none 0 0)])
def marksTo (ss : List ByteArray) (zs : List Int) (vs : List Value) (k : Nat) : List (ByteArray × Value) :=
  (List.range k).map fun i => (ss.getD i ByteArray.empty, .agg #[.int .u64 (zs.getD i 0), vs.getD i (.slice none 0 0)])
theorem marksTo_succ (ss : List ByteArray) (zs : List Int) (vs : List Value) (k : Nat) : marksTo ss zs vs (k + 1) = marksTo ss zs vs k ++ [(ss.getD k ByteArray.empty, .agg #[.int .u64 (zs.getD k 0), vs.getD k (.slice none 0 0)])] := by
  simp [marksTo, List.range_succ]

/-- The words that the two lists give, in their order. -/
def fins (ss : List ByteArray) (zs : List Int) : List (ByteArray × Value) := (List.range ss.length).map fun i => (ss.getD i ByteArray.empty, .int .u64 (zs.getD i 0))
def finsTo (ss : List ByteArray) (zs : List Int) (k : Nat) : List (ByteArray × Value) := (List.range k).map fun i => (ss.getD i ByteArray.empty, .int .u64 (zs.getD i 0))
theorem finsTo_succ (ss : List ByteArray) (zs : List Int) (k : Nat) : finsTo ss zs (k + 1) = finsTo ss zs k ++ [(ss.getD k ByteArray.empty, .int .u64 (zs.getD k 0))] := by
  simp [finsTo, List.range_succ]

theorem map_ne_cells {R : Value → Option (DataW Value × List MemPlace)} {w : World} {b n : Nat} {D : DataW Value} (h : w.ownsMap Try.prog 9 R b n D) {a : Addr} {v : Value} (hc : w.cell? a = some v) : a.block ≠ b := by
  intro e
  obtain ⟨es, clock, h1, _⟩ := h
  simp [World.cell?, e, h1] at hc

theorem seqAt_is {v : Value} {zs : List Int} {k : Nat} {w : World} {lo hi : Nat} {z : Int} (h : WordsAt lo hi w v zs) (hz : Hid (zs.getD k 0 = z)) : Calls Try.prog 52 #[v, .int .i64 k] w fun e w' => e = .returned (.int .u64 z) ∧ w' = w := by
  have := seqAt_any v zs k w h
  rwa [hz.out] at this

theorem peersAt_is {v : Value} {vs : List Value} {k : Nat} {w : World} {lo hi : Nat} {u : Value} (h : RowAt 24 lo hi w v vs) (hs : ∀ i, i < vs.length → ∃ ao n cap, vs.getD i undef = .slice ao n cap) (hz : Hid (vs.getD k (.slice none 0 0) = u)) : Calls Try.prog 53 #[v, .int .i64 k] w fun e w' => e = .returned u ∧ w' = w := by
  have := peersAt_any v vs k w h hs
  rwa [hz.out] at this

theorem peers_shape {vs : List Value} (hs : ∀ i, i < vs.length → ∃ ao n cap, vs.getD i undef = .slice ao n cap) (k : Nat) : ∃ ao n cap, vs.getD k (.slice none 0 0) = .slice ao n cap := by
  by_cases h : k < vs.length
  · obtain ⟨ao, n, cap, e⟩ := hs k h
    exact ⟨ao, n, cap, by rw [← e]; simp [List.getD, h]⟩
  · exact ⟨none, 0, 0, by simp [List.getD, Nat.le_of_not_lt h]⟩

set_option maxRecDepth 100000 in
set_option maxHeartbeats 1000000 in
theorem buildMarkers_any (v1 v2 v3 : Value) (force : Bool) (ss : List ByteArray) (zs : List Int) (vs : List Value) (w : World) {lo hi : Nat} (h1 : StrsAt lo hi w v1 ss) (h2 : WordsAt lo hi w v2 zs) (h3 : RowAt 24 lo hi w v3 vs) (h3s : ∀ i, i < vs.length → ∃ ao n cap, vs.getD i undef = .slice ao n cap) (hh : hi ≤ w.heap.size) :
    Calls Try.prog 47 #[v1, v2, v3, .bool force] w fun e w' => ∃ mo, e = .returned (.map mo) ∧ MapIs mkR w.heap.size w'.heap.size w' mo ss.length (mapOf (marks ss zs vs)) ∧ (force = true → mo ≠ none) ∧ Below w.heap.size w w' := by
  have q23 : ∀ (w : World) (a : Option Addr) (n c n' c' : Nat), (binOp .eql 23 (.slice a n c) (.slice none n' c')).run Try.prog w = .ok (.bool a.isNone) w := fun w a n c n' c' => Lib.run_eql_slice_nil w _ _ a n c n' c' Try.underlying23
  have hmm := @run_makeMap Try.prog
  have hwf := h1.2
  rcases h1.open with ⟨ao, cap, rfl, rfl, hn⟩ | ⟨b, off, cap, hbh, hbl0, rfl, hp, hcap, hb, hc⟩
  · have hmade : MapIs mkR w.heap.size (w.alloc (.map #[] 0)).heap.size (w.alloc (.map #[] 0)) (some w.heap.size) 0 (mapOf (marks [] zs vs)) := ⟨Nat.le_refl _, by simp, World.ownsMap_made _ _ _ _⟩
    have HM := hide hmade
    clear hmade h1 h2 h3 h3s hwf
    cases ao with
    | none =>
      cases force with
      | false =>
        go_enter Try.func47, Try.ntmps47
        go_wp2
        go_ret
        exact ⟨none, rfl, rfl, Below.refl _ _⟩
      | true =>
        go_enter Try.func47, Try.ntmps47
        go_wp2
        refine wp_loop_rounds 1 ?_
        rw [rounds_succ]
        go_wp2
        go_ret
        exact ⟨some w.heap.size, rfl, unhide HM, by simp, (Below.refl _ _).alloc (Nat.le_refl _) _⟩
    | some x =>
      go_enter Try.func47, Try.ntmps47
      go_wp2
      refine wp_loop_rounds 1 ?_
      rw [rounds_succ]
      go_wp2
      go_ret
      exact ⟨some w.heap.size, rfl, unhide HM, by simp, (Below.refl _ _).alloc (Nat.le_refl _) _⟩
  · have hbB : b < w.heap.size := by omega
    have hmarks : marks ss zs vs = marksTo ss zs vs ss.length := rfl
    rw [hmarks]
    clear hmarks h1
    have HW := hide hwf
    clear hwf
    have HC : Hid (∀ i, i < ss.length → w.cell? ⟨b, off + i, none⟩ = some (.string (ss.getD i ByteArray.empty))) := hc
    clear hc
    have H2 := hide h2
    have H3 := hide h3
    have H3s := hide h3s
    clear h2 h3 h3s
    obtain ⟨len, hlen⟩ : ∃ len, len = ss.length := ⟨_, rfl⟩
    have HL := hide hlen
    rw [← hlen] at hp hcap hb ⊢
    clear hlen
    go_enter Try.func47, Try.ntmps47
    go_wp2
    go_loopw [10] (fun i wr => ∃ k : Nat, k ≤ len ∧ i = .int .i64 k ∧ wr.ownsMap Try.prog 9 mkR w.heap.size k (mapOf (marksTo ss zs vs k)) ∧ Below w.heap.size w wr) (fun i _ => len - (intOf i).toNat)
    case atStart => exact ⟨0, Nat.zero_le _, rfl, World.ownsMap_made _ _ _ _, (Below.refl _ _).alloc (Nat.le_refl _) _⟩
    case round =>
      obtain ⟨k, hk, rfl, hown, hbl⟩ := hrel
      by_cases hlt : k < len
      · obtain ⟨s, hs⟩ : ∃ s, s = ss.getD k ByteArray.empty := ⟨_, rfl⟩
        have hcell : wr.cell? ⟨b, off + k, none⟩ = some (.string s) := by rw [hbl.cell hbB, unhide HC k (by rw [← unhide HL]; exact hlt), hs]
        have hsl : s.size ≤ maxLen := by
          have hk' : k < ss.length := by rw [← unhide HL]; exact hlt
          rw [hs, show ss.getD k ByteArray.empty = ss[k] by simp [List.getD, hk']]
          exact unhide HW _ (List.getElem_mem hk')
        obtain ⟨z, hz⟩ : ∃ z, zs.getD k 0 = z := ⟨_, rfl⟩
        obtain ⟨pa, pn, pc, hp3⟩ := peers_shape (unhide H3s) k
        obtain ⟨w2, hrun, hown2, hgrow⟩ := hown.drew.update law9 Try.underlying33 (by unfold maxLen; omega) (keyOf9 hsl) (mkR_mk z pa pn pc)
        have hput : (mapOf (marksTo ss zs vs k)).put (key s) (.held (.agg #[.int .u64 z, .slice pa pn pc])) = mapOf (marksTo ss zs vs (k + 1)) := by
          rw [marksTo_succ, mapOf_snoc, ← hs, hz, hp3]
        rw [hput] at hown2
        have hc2 : w2.cell? ⟨b, off + k, none⟩ = some (.string s) := by
          rw [World.cell?_of_block (w := wr.drew) (hgrow.block b (by have := cell_lt hcell; simpa using this) (by have := map_ne_cells hown hcell; simpa using this))]
          exact hcell
        have hb2 : Below w.heap.size w w2 := hbl.drew.grown hgrow (by have := hbl.size; simpa using this) (by simp)
        have HO2 := hide hown2
        have HB2 := hide hb2
        have HZ := hide hz
        have HP := hide hp3
        have HWR : Hid (Same lo hi w wr.drew) := Same.below hbl.drew hh
        clear hown2 hb2 hz hp3 hput hown hgrow hs hsl
        have i0 : (0 : Int) ≤ (k : Int) := by omega
        have i1 : (k : Int) < (len : Int) := by omega
        go_wp2_with fail
        go_region_held3 (fun w' => w'.cell? ⟨b, off + k, none⟩ = some (.string s)) (first | assumption | go_keep)
          (first | (go_at_call 52; refine (seqAt_is (lo := lo) (hi := hi) (zs := zs) (z := z) ?_ HZ).mono ?_; exact (unhide H2).same (unhide HWR); rintro e w' ⟨rfl, rfl⟩) | (go_at_call 53; refine (peersAt_is (lo := lo) (hi := hi) (vs := vs) (u := .slice pa pn pc) ?_ (unhide H3s) HP).mono ?_; exact (unhide H3).same (unhide HWR); rintro e w' ⟨rfl, rfl⟩))
        go_wp2
        go_roundw
        case rel => exact ⟨k + 1, by omega, by go_num, unhide HO2, unhide HB2⟩
        case measure => simp [intOf]; omega
      · obtain rfl : k = len := by omega
        have HO := hide hown
        clear hown
        go_wp2
        go_ret
        exact ⟨some w.heap.size, rfl, ⟨Nat.le_refl _, (unhide HO).lt, unhide HO⟩, by simp, hbl⟩

set_option maxRecDepth 100000 in
set_option maxHeartbeats 1000000 in
theorem buildFinals_any (v1 v2 : Value) (force : Bool) (ss : List ByteArray) (zs : List Int) (w : World) {lo hi : Nat} (h1 : StrsAt lo hi w v1 ss) (h2 : WordsAt lo hi w v2 zs) (hh : hi ≤ w.heap.size) :
    Calls Try.prog 48 #[v1, v2, .bool force] w fun e w' => ∃ mo, e = .returned (.map mo) ∧ MapIs fiR w.heap.size w'.heap.size w' mo ss.length (mapOf (fins ss zs)) ∧ (force = true → mo ≠ none) ∧ Below w.heap.size w w' := by
  have q23 : ∀ (w : World) (a : Option Addr) (n c n' c' : Nat), (binOp .eql 23 (.slice a n c) (.slice none n' c')).run Try.prog w = .ok (.bool a.isNone) w := fun w a n c n' c' => Lib.run_eql_slice_nil w _ _ a n c n' c' Try.underlying23
  have hmm := @run_makeMap Try.prog
  have hwf := h1.2
  rcases h1.open with ⟨ao, cap, rfl, rfl, hn⟩ | ⟨b, off, cap, hbh, hbl0, rfl, hp, hcap, hb, hc⟩
  · have hmade : MapIs fiR w.heap.size (w.alloc (.map #[] 0)).heap.size (w.alloc (.map #[] 0)) (some w.heap.size) 0 (mapOf (fins [] zs)) := ⟨Nat.le_refl _, by simp, World.ownsMap_made _ _ _ _⟩
    have HM := hide hmade
    clear hmade h1 h2 hwf
    cases ao with
    | none =>
      cases force with
      | false =>
        go_enter Try.func48, Try.ntmps48
        go_wp2
        go_ret
        exact ⟨none, rfl, rfl, Below.refl _ _⟩
      | true =>
        go_enter Try.func48, Try.ntmps48
        go_wp2
        refine wp_loop_rounds 1 ?_
        rw [rounds_succ]
        go_wp2
        go_ret
        exact ⟨some w.heap.size, rfl, unhide HM, by simp, (Below.refl _ _).alloc (Nat.le_refl _) _⟩
    | some x =>
      go_enter Try.func48, Try.ntmps48
      go_wp2
      refine wp_loop_rounds 1 ?_
      rw [rounds_succ]
      go_wp2
      go_ret
      exact ⟨some w.heap.size, rfl, unhide HM, by simp, (Below.refl _ _).alloc (Nat.le_refl _) _⟩
  · have hbB : b < w.heap.size := by omega
    have hmarks : fins ss zs = finsTo ss zs ss.length := rfl
    rw [hmarks]
    clear hmarks h1
    have HW := hide hwf
    clear hwf
    have HC : Hid (∀ i, i < ss.length → w.cell? ⟨b, off + i, none⟩ = some (.string (ss.getD i ByteArray.empty))) := hc
    clear hc
    have H2 := hide h2
    clear h2
    obtain ⟨len, hlen⟩ : ∃ len, len = ss.length := ⟨_, rfl⟩
    have HL := hide hlen
    rw [← hlen] at hp hcap hb ⊢
    clear hlen
    go_enter Try.func48, Try.ntmps48
    go_wp2
    go_loopw [8] (fun i wr => ∃ k : Nat, k ≤ len ∧ i = .int .i64 k ∧ wr.ownsMap Try.prog 9 fiR w.heap.size k (mapOf (finsTo ss zs k)) ∧ Below w.heap.size w wr) (fun i _ => len - (intOf i).toNat)
    case atStart => exact ⟨0, Nat.zero_le _, rfl, World.ownsMap_made _ _ _ _, (Below.refl _ _).alloc (Nat.le_refl _) _⟩
    case round =>
      obtain ⟨k, hk, rfl, hown, hbl⟩ := hrel
      by_cases hlt : k < len
      · obtain ⟨s, hs⟩ : ∃ s, s = ss.getD k ByteArray.empty := ⟨_, rfl⟩
        have hcell : wr.cell? ⟨b, off + k, none⟩ = some (.string s) := by rw [hbl.cell hbB, unhide HC k (by rw [← unhide HL]; exact hlt), hs]
        have hsl : s.size ≤ maxLen := by
          have hk' : k < ss.length := by rw [← unhide HL]; exact hlt
          rw [hs, show ss.getD k ByteArray.empty = ss[k] by simp [List.getD, hk']]
          exact unhide HW _ (List.getElem_mem hk')
        obtain ⟨z, hz⟩ : ∃ z, zs.getD k 0 = z := ⟨_, rfl⟩
        obtain ⟨w2, hrun, hown2, hgrow⟩ := hown.drew.update law9 Try.underlying34 (by unfold maxLen; omega) (keyOf9 hsl) (fiR_mk z)
        have hput : (mapOf (finsTo ss zs k)).put (key s) (.held (.int .u64 z)) = mapOf (finsTo ss zs (k + 1)) := by
          rw [finsTo_succ, mapOf_snoc, ← hs, hz]
        rw [hput] at hown2
        have hc2 : w2.cell? ⟨b, off + k, none⟩ = some (.string s) := by
          rw [World.cell?_of_block (w := wr.drew) (hgrow.block b (by have := cell_lt hcell; simpa using this) (by have := map_ne_cells hown hcell; simpa using this))]
          exact hcell
        have hb2 : Below w.heap.size w w2 := hbl.drew.grown hgrow (by have := hbl.size; simpa using this) (by simp)
        have HO2 := hide hown2
        have HB2 := hide hb2
        have HZ := hide hz
        have HWR : Hid (Same lo hi w wr.drew) := Same.below hbl.drew hh
        clear hown2 hb2 hz hput hown hgrow hs hsl
        have i0 : (0 : Int) ≤ (k : Int) := by omega
        have i1 : (k : Int) < (len : Int) := by omega
        go_wp2_with fail
        go_region_held3 (fun w' => w'.cell? ⟨b, off + k, none⟩ = some (.string s)) (first | assumption | go_keep)
          (first | (go_at_call 52; refine (seqAt_is (lo := lo) (hi := hi) (zs := zs) (z := z) ?_ HZ).mono ?_; exact (unhide H2).same (unhide HWR); rintro e w' ⟨rfl, rfl⟩))
        go_wp2
        go_roundw
        case rel => exact ⟨k + 1, by omega, by go_num, unhide HO2, unhide HB2⟩
        case measure => simp [intOf]; omega
      · obtain rfl : k = len := by omega
        have HO := hide hown
        clear hown
        go_wp2
        go_ret
        exact ⟨some w.heap.size, rfl, ⟨Nat.le_refl _, (unhide HO).lt, unhide HO⟩, by simp, hbl⟩

end Go.Proofs.Qxb6601448a
