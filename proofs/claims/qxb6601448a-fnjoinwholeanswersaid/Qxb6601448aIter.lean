/- slices.Sorted(slices.Values(peers)): the iterator over a slice of strings, and what collects and sorts what it gives. -/
import Derived.Test.Qxb6601448aLay
import Derived.Test.Qxb6601448aBase
import Derived.RangeFuncBox
import Derived.RangeFuncLeaves
import Derived.WalkKit
import Derived.OwnWalkIn
import Derived.TacticsInMore
import Derived.LoopNIn
import Derived.LoopIn
namespace Go.Proofs.Qxb6601448a
open Go.RowKit Go.Maps Go.Sort Go.Shelf
set_option linter.unusedVariables false

/-- What the first k rounds gave. -/
def upto (f : Nat → List UInt8) (k : Nat) : List (List UInt8) := (List.range k).map f
theorem upto_succ (f : Nat → List UInt8) (k : Nat) : upto f (k + 1) = upto f k ++ [f k] := by simp [upto, List.range_succ]
theorem upto_length (f : Nat → List UInt8) (k : Nat) : (upto f k).length = k := by simp [upto]
theorem upto_all (zs : List (List UInt8)) : upto (fun j => zs[j]?.getD []) zs.length = zs := by
  apply List.ext_getElem
  · simp [upto]
  · intro i h1 h2
    simp [upto, h2]

/-- An iterator value that reads what lay in w: whatever the rounds keep of their own, so they keep what lay in w, it gives xs with S xs. -/
def SeqB (n : Nat) (g : Nat) (lb : Array Value) (S : List (List UInt8) → Prop) (N : Nat) (w : World) : Prop :=
  ∀ (l : Nat) (J : List (List UInt8) → World → Prop) (W : World), (∀ s W1, J s W1 → Below w.heap.size w W1) → AbidesFrom W.heap.size J →
    (∀ pre x W1, J pre W1 → pre.length < N → YieldAt Fence.wide (n - 1) Try.prog l #[encStr x] W1 fun e W' => e = .returned (.bool true) ∧ J (pre ++ [x]) W' ∧ KeepsWalks W1 W') →
    J [] W →
    CallsIn Fence.wide n Try.prog g (#[.func (.yield l) #[] #[]] ++ lb) W fun e W' => (∃ v, e = .returned v) ∧ ∃ xs, S xs ∧ J xs W'

set_option maxRecDepth 100000 in
set_option maxHeartbeats 2000000 in
theorem values1_in (n : Nat) (hn : 1 ≤ n) (l Bs b off len cap : Nat) (zs : List (List UInt8)) (w : World) (hreach : len * 16 ≤ 140737488351232) (hb : b < w.heap.size) (J : List (List UInt8) → World → Prop)
    (hJB : ∀ s W1, J s W1 → Below w.heap.size w W1)
    (hY : ∀ pre x W1, J pre W1 → pre.length < len → YieldAt Fence.wide (n - 1) Try.prog l #[encStr x] W1 fun e W' => e = .returned (.bool true) ∧ J (pre ++ [x]) W' ∧ KeepsWalks W1 W')
    (W : World) (hBs : W.cell? ⟨Bs, 0, none⟩ = some (.slice (some ⟨b, off, none⟩) len cap)) (hc : ∀ j, j < len → w.cell? ⟨b, off + j, none⟩ = some (encStr (zs[j]?.getD []))) (h0 : J [] W) :
    CallsIn Fence.wide n Try.prog 65 #[.func (.yield l) #[] #[], .pointer (some ⟨Bs, 0, none⟩)] W fun e W' => (∃ v, e = .returned v) ∧ J (upto (fun j => zs[j]?.getD []) len) W' := by
  have h65 : Fence.wide.fn 65 := trivial
  have HJB := hide hJB
  have HC := hide hc
  clear hJB hc
  refine callsIn_of_wp Try.func65 rfl h65 ?_ rfl
  simp only [Try.ntmps65, List.size_toArray, List.length_cons, List.length_nil, Nat.reduceAdd, Nat.reduceSub, Array.replicate_succ, Array.replicate_zero, List.push_toArray, List.append_toArray, List.nil_append, List.cons_append]
  gi_wp2
  gi_loopw [7] (fun i wr => ∃ k : Nat, k ≤ len ∧ i = .int .i64 k ∧ J (upto (fun j => zs[j]?.getD []) k) wr) (fun i _ => len - (intOf i).toNat)
  case atStart => exact ⟨0, Nat.zero_le _, rfl, h0⟩
  case round =>
    obtain ⟨k, hk, rfl, hJs⟩ := hrel
    by_cases hlt : k < len
    · obtain ⟨fn, tmps, assign, body, hy, hR⟩ := hY _ (zs[k]?.getD []) wr hJs (by rw [upto_length]; exact hlt)
      have hcx' : wr.cell? ⟨b, off + k, none⟩ = some (encStr (zs[k]?.getD [])) := (((unhide HJB) _ _ hJs).cell (p := ⟨b, off + k, none⟩) hb).trans (unhide HC k hlt)
      gi_wp2
      refine hR.mono ?_
      rintro e W3 ⟨rfl, hJ3, hk3⟩
      gi_wp2
      go_roundw
      case rel => exact ⟨k + 1, by omega, by simp, by rw [upto_succ]; exact hJ3⟩
      case measure => simp [intOf]; omega
    · obtain rfl : k = len := by omega
      gi_wp2
      go_end0
      exact ⟨⟨_, rfl⟩, hJs⟩

set_option maxRecDepth 100000 in
set_option maxHeartbeats 2000000 in
theorem values1_none (n : Nat) (l Bs cap : Nat) (ao : Option Addr) (J : List (List UInt8) → World → Prop)
    (W : World) (hBs : W.cell? ⟨Bs, 0, none⟩ = some (.slice ao 0 cap)) (h0 : J [] W) :
    CallsIn Fence.wide n Try.prog 65 #[.func (.yield l) #[] #[], .pointer (some ⟨Bs, 0, none⟩)] W fun e W' => (∃ v, e = .returned v) ∧ J [] W' := by
  have h65 : Fence.wide.fn 65 := trivial
  refine callsIn_of_wp Try.func65 rfl h65 ?_ rfl
  simp only [Try.ntmps65, List.size_toArray, List.length_cons, List.length_nil, Nat.reduceAdd, Nat.reduceSub, Array.replicate_succ, Array.replicate_zero, List.push_toArray, List.append_toArray, List.nil_append, List.cons_append]
  gi_wp2
  gi_loopw [7] (fun i wr => i = .int .i64 0 ∧ J [] wr) (fun i _ => 0 - (intOf i).toNat)
  case atStart => exact ⟨rfl, h0⟩
  case round =>
    obtain ⟨rfl, hJs⟩ := hrel
    gi_wp2
    go_end0
    exact ⟨⟨_, rfl⟩, hJs⟩

/-- The bytes of a string, as the kit's sort has them. -/
abbrev raw (s : ByteArray) : List UInt8 := s.data.toList
theorem encStr_raw (s : ByteArray) : encStr (raw s) = .string s := by simp [raw]

theorem values_gives (n : Nat) (hn : 1 ≤ n) (Bs : Nat) (v : Value) (ss : List ByteArray) (w : World) {lo hi : Nat} (hBs : Bs < w.heap.size) (hc : w.cell? ⟨Bs, 0, none⟩ = some v) (h : StrsAt lo hi w v ss) (hh : hi ≤ w.heap.size) :
    SeqB n 65 #[.pointer (some ⟨Bs, 0, none⟩)] (fun xs => xs = ss.map raw) ss.length w := by
  intro l J W hJB hJ hY h0
  have hc' : W.cell? ⟨Bs, 0, none⟩ = some v := ((hJB _ _ h0).cell (p := ⟨Bs, 0, none⟩) hBs).trans hc
  rcases h.open with ⟨ao, cap, rfl, rfl, hn⟩ | ⟨b, off, cap, hbh, hbl0, rfl, hp, hcap, hb, hcs⟩
  · refine (values1_none n l Bs cap ao J W hc' h0).mono ?_
    rintro e W' ⟨h1, h2⟩
    exact ⟨h1, [], rfl, h2⟩
  · refine (values1_in n hn l Bs b off ss.length cap (ss.map raw) w hb (by omega) J hJB hY W hc' (fun j hj => ?_) h0).mono ?_
    · rw [hcs j hj]
      simp [hj, List.getD]
    · rintro e W' ⟨h1, h2⟩
      refine ⟨h1, ss.map raw, rfl, ?_⟩
      have := upto_all (ss.map raw)
      rw [List.length_map] at this
      rw [this] at h2
      exact h2

theorem lay67 : SlLaysZ.n11 Try.prog sorted59_ren := { sorted59 with }

set_option maxRecDepth 100000 in
set_option maxHeartbeats 2000000 in
/-- slices.AppendSeq(nil, seq): a new slice of what the iterator gave. -/
theorem appendSeq_b (n : Nat) (hn : 2 ≤ n) (g : Nat) (lb : Array Value) (eg : ∀ args w, (callFunc g args).run Try.prog w = .ok (.enter g args) w)
    (S : List (List UInt8) → Prop) (N : Nat) (hN : N ≤ maxLen) (hNb : N * 16 ≤ 140737488355328) (w : World) (hseq : SeqB (n - 1) g lb S N w) :
    CallsIn Fence.wide n Try.prog 67 #[.slice none 0 0, .func (.func g) #[] lb] w fun e w' => ∃ (v : Value) (ss : List (List UInt8)), e = .returned v ∧ S ss ∧ w'.ownsRow w.heap.size 9 1 v ss.length (ss.map encStr) ∧ Below w.heap.size w w' := by
  have h67 : Fence.wide.fn 67 := trivial
  have hne : ∀ cur cur' : Array Value, Obj.cells cur 23 (0, 0) ≠ Obj.cells cur' 9 (0, 0) := fun cur cur' e => by cases e
  refine callsIn_of_wp_marks Try.func67 rfl h67 ?_ rfl
  simp only [Try.ntmps67, List.size_toArray, List.length_cons, List.length_nil, Nat.reduceAdd, Nat.reduceSub, Array.replicate_succ, Array.replicate_zero, List.push_toArray, List.append_toArray, List.nil_append, List.cons_append]
  gi_wp2
  refine wpIn_rangeFunc ?_
  intro fn hfn
  obtain ⟨W0, hW0⟩ : ∃ W0, w.alloc (.cells #[.slice none 0 0] 23) = W0 := ⟨_, rfl⟩
  have hs0 : W0.heap.size = w.heap.size + 1 := by rw [← hW0]; simp
  have hv0 : W0.heap[w.heap.size]? = some (.cells #[.slice none 0 0] 23 (0, 0)) := by rw [← hW0]; exact World.alloc_heap_new w _
  have hb0 : Below w.heap.size w W0 := by rw [← hW0]; exact (Below.refl _ w).alloc (Nat.le_refl _) _
  rw [hW0]
  obtain ⟨W1, hW1⟩ : ∃ W1, (W0.alloc (.deferred (some []))).alloc (.loop (AnyZ.apRec sorted59_ren fn (.func (.func g) #[] lb) w.heap.size W0.heap.size .ready none)) = W1 := ⟨_, rfl⟩
  have hold : ∀ k, k < W0.heap.size → W1.heap[k]? = W0.heap[k]? := fun k hk => by
    rw [← hW1]; exact (Below.heap_alloc _ _ k (by simp; omega)).trans (Below.heap_alloc _ _ k hk)
  have hb1 : Below w.heap.size w W1 := by rw [← hW1]; exact (hb0.alloc hb0.size _).alloc (by have := hb0.size; simp; omega) _
  have hM : AnyZ.ApAt sorted59_ren w fn (.func (.func g) #[] lb) w.heap.size (W0.heap.size + 1) W0.heap.size [] W1 :=
    ⟨⟨_, (hold w.heap.size (by omega)).trans hv0, ⟨rfl, .inl ⟨rfl, rfl⟩⟩, by simp⟩,
     by rw [← hW1]; have := World.alloc_heap_new (W0.alloc (.deferred (some []))) (.loop (AnyZ.apRec sorted59_ren fn (.func (.func g) #[] lb) w.heap.size W0.heap.size .ready none)); rwa [World.size_alloc] at this,
     by rw [← hW1]; exact (Below.heap_alloc _ _ _ (by simp)).trans (World.alloc_heap_new W0 _), hb1⟩
  refine ⟨W0.heap.size + 1, [{ target := .collected W0.heap.size, args := #[] }], W1, { target := .fn (.func g) lb, args := #[.func (.yield (W0.heap.size + 1)) #[] #[]] }, W1, g,
    #[.func (.yield (W0.heap.size + 1)) #[] #[]] ++ lb, W1, ?_, ?_, ?_, ?_, fun _ => by omega, ?_⟩
  · rw [← hW1]; exact run_enterLoop_outer _ _ _ _ _
  · simp [resolve, go_sem]
  · intro f' hf'; trivial
  · simp [invoke, go_sem, eg]
  · refine (hseq (W0.heap.size + 1) (AnyZ.ApAt sorted59_ren w fn (.func (.func g) #[] lb) w.heap.size (W0.heap.size + 1) W0.heap.size) W1 (fun s W1 h => h.below) (AnyZ.ap_abides sorted59_ren _ _ _ _ _ _ _ hb1.size)
      (fun pre x W hJ hl => AnyZ.apYield lay67 Fence.wide (n - 1 - 1) w fn hfn _ w.heap.size (W0.heap.size + 1) W0.heap.size (by omega) (by omega) (by omega) (Nat.le_refl _) (by omega) N hN hNb pre x W hJ hl) hM).mono ?_
    rintro e W2 ⟨⟨v0, rfl⟩, ss, hS, h2⟩
    obtain ⟨v, hv, hrow, hnil⟩ := h2.box
    have hend := run_endLoop (P := Try.prog) h2.L (by simp [AnyZ.apRec])
    obtain ⟨W3, hW3⟩ : ∃ W3, W2.putObj (W0.heap.size + 1) (.loop { AnyZ.apRec sorted59_ren fn (.func (.func g) #[] lb) w.heap.size W0.heap.size .ready none with state := .exhausted }) = W3 := ⟨_, rfl⟩
    rw [hW3] at hend
    have hg3 : W2.grownBy W3 (some (W0.heap.size + 1)) := by rw [← hW3]; exact grownBy_putObj_a _ _ _
    have hv3 : W3.heap[w.heap.size]? = some (.cells #[v] 23 (0, 0)) := by rw [← hW3]; exact (World.putObj_heap_other (by omega)).trans hv
    have hK3 : W3.heap[W0.heap.size]? = some (.deferred (some [])) := by rw [← hW3]; exact (World.putObj_heap_other (by omega)).trans h2.K
    have hrow3 := hrow.kept hg3 (ownsRow_ne_a hrow h2.L (fun cur e => by cases e))
    have hb3 : Below w.heap.size w W3 := h2.below.grown hg3 h2.below.size (fun k e => by cases e; omega)
    obtain ⟨hc3, hf3⟩ := cell_of_box_a hv3
    clear hW3
    refine ⟨none, W3, hend, ?_⟩
    gi_wp2
    rw [← hs0]
    refine ⟨by simp, .inl ⟨_, _, rfl, run_takeDeferred hK3, ?_⟩⟩
    exact ⟨_, results_tmp rfl _ _ _, v, ss, rfl, hS, hrow3.kept (grownBy_putObj_a _ _ _) (ownsRow_ne_a hrow3 hK3 (fun cur e => by cases e)), hb3.grown (grownBy_putObj_a _ _ _) hb3.size (fun k e => by cases e; omega)⟩

set_option maxHeartbeats 1000000 in
theorem collect_b (n : Nat) (hn : 3 ≤ n) (g : Nat) (lb : Array Value) (eg : ∀ args w, (callFunc g args).run Try.prog w = .ok (.enter g args) w)
    (S : List (List UInt8) → Prop) (N : Nat) (hN : N ≤ maxLen) (hNb : N * 16 ≤ 140737488355328) (w : World) (hseq : SeqB (n - 1 - 1) g lb S N w) :
    CallsIn Fence.wide n Try.prog 63 #[.func (.func g) #[] lb] w fun e w' => ∃ (v : Value) (ss : List (List UInt8)), e = .returned v ∧ S ss ∧ w'.ownsRow w.heap.size 9 1 v ss.length (ss.map encStr) ∧ Below w.heap.size w w' := by
  have h1 : 1 ≤ n := by omega
  have h63 : Fence.wide.fn 63 := trivial
  have h67 : Fence.wide.fn 67 := trivial
  refine callsIn_of_wp Try.func63 rfl h63 ?_ rfl
  simp only [Try.ntmps63, List.size_toArray, List.length_cons, List.length_nil, Nat.reduceAdd, Nat.reduceSub, Array.replicate_succ, Array.replicate_zero, List.push_toArray, List.append_toArray, List.nil_append, List.cons_append]
  gi_wp2_with (gi_at_call 67; refine (appendSeq_b (n - 1) (by omega) g lb eg S N hN hNb _ hseq).mono ?_; rintro e w' ⟨v, ss, rfl, hS, hrow, hb⟩)
  go_ret
  exact ⟨v, ss, rfl, hS, hrow, hb⟩

/-- The strings, sorted. -/
def sortS (zs : List (List UInt8)) : List (List UInt8) := zs.mergeSort fun x y => decide (x ≤ y)
theorem sortS_length (zs : List (List UInt8)) : (sortS zs).length = zs.length := by simp [sortS]

set_option maxHeartbeats 1000000 in
/-- slices.Sorted(slices.Values(s)): a new slice of its strings, sorted. -/
theorem sorted_b (Bs : Nat) (v : Value) (ss : List ByteArray) (w : World) {lo hi : Nat} (hBs : Bs < w.heap.size) (hc : w.cell? ⟨Bs, 0, none⟩ = some v) (h : StrsAt lo hi w v ss) (hh : hi ≤ w.heap.size) (hl : ss.length * 16 ≤ 140737488351232) :
    Calls Try.prog 59 #[.func (.func 65) #[] #[.pointer (some ⟨Bs, 0, none⟩)]] w fun e w' => ∃ v', e = .returned v' ∧ w'.ownsRow w.heap.size 9 1 v' ss.length ((sortS (ss.map raw)).map encStr) ∧ Below w.heap.size w w' := by
  have hseq := values_gives 2 (by omega) Bs v ss w hBs hc h hh
  refine (callsIn_wide (n := 5)).1 ?_
  have h59 : Fence.wide.fn 59 := trivial
  have h63 : Fence.wide.fn 63 := trivial
  have h64 : Fence.wide.fn 64 := trivial
  have HS := hide hseq
  clear hseq hc h
  refine callsIn_of_wp Try.func59 rfl h59 ?_ rfl
  simp only [Try.ntmps59, List.size_toArray, List.length_cons, List.length_nil, Nat.reduceAdd, Nat.reduceSub, Array.replicate_succ, Array.replicate_zero, List.push_toArray, List.append_toArray, List.nil_append, List.cons_append]
  gi_wp2_with (first | (gi_at_call 63; refine (collect_b 4 (by omega) 65 _ (enters_of Try.func65 (by kernel_rfl) rfl) _ ss.length (by simp [maxLen]; omega) (by omega) _ (unhide HS)).mono ?_; rintro e W ⟨v1, zs, rfl, rfl, hrow, hb⟩) | fail)
  have hlen : (ss.map raw).length = ss.length := by simp
  rcases hrow.2 with ⟨rfl, hz⟩ | ⟨gb, cap, cur, rfl, hbase, hgb, r1, r2, r3, r4⟩
  · have hss : ss = [] := List.eq_nil_of_length_eq_zero (by omega)
    refine (callsIn_wide.2 (AnyM.slices_Sort_string_none sort64 none 0 W)).mono ?_
    rintro e w' ⟨rfl, rfl⟩
    gi_wp2
    go_ret
    refine ⟨_, rfl, ?_, hb⟩
    subst hss
    simpa [sortS] using hrow
  · have hH : Holds encStr W gb 0 (ss.map raw).toArray := holds_of_block hgb (by simpa using r4)
    have hgl : gb < W.heap.size := (Array.getElem?_eq_some_iff.1 hgb).1
    refine (callsIn_wide.2 (AnyM.slices_Sort_string sort64 gb 0 cap (ss.map raw) W hH hgl (by omega))).mono ?_
    rintro e w' ⟨rfl, nn, os, rfl⟩
    gi_wp2
    go_ret
    refine ⟨_, rfl, ?_, hb.grown (grownBy_sorted _) hb.size (fun j hj => by cases hj; exact hbase)⟩
    have := ownsRow_sorted (ts := sortS (ss.map raw)) (n := nn) (os := os) (by simp [sortS]) hbase hgb r1 r2 r3
    rw [hlen] at this
    exact this
end Go.Proofs.Qxb6601448a
