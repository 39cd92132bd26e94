/- The walk of record (49). -/
import Derived.Test.Qxb6601448aIter
import Derived.Test.Qxb6601448aCut
import Derived.Test.Qxb6601448aRange
namespace Go.Proofs.Qxb6601448a
open Go.RowKit
open Go.Maps (Keyed)
set_option linter.unusedVariables false

/-- slices.Values: a function value over one new block, which holds the slice. -/
theorem values_any (a : Option Addr) (n c : Nat) (w : World) : Calls Try.prog 60 #[.slice a n c] w fun e w' => e = .returned (.func (.func 65) #[] #[.pointer (some ⟨w.heap.size, 0, none⟩)]) ∧ w' = w.alloc (.cells #[.slice a n c] 23) := by
  go_enter Try.func60, Try.ntmps60
  go_wp2
  go_ret
  exact ⟨rfl, rfl⟩

theorem values_some (a : Option Addr) (n c : Nat) (w : World) : Calls Try.prog 60 #[.slice a n c] w fun e w' => ∃ B, e = .returned (.func (.func 65) #[] #[.pointer (some ⟨B, 0, none⟩)]) ∧ (B < w'.heap.size ∧ w'.cell? ⟨B, 0, none⟩ = some (.slice a n c)) ∧ Below w.heap.size w w' := by
  refine (values_any a n c w).mono ?_
  rintro e w' ⟨rfl, rfl⟩
  exact ⟨w.heap.size, rfl, ⟨by simp, by simp [go_sem]⟩, (Below.refl _ _).alloc (Nat.le_refl _) _⟩

/-- A string out of its bytes. -/
abbrev back (l : List UInt8) : ByteArray := ⟨l.toArray⟩
/-- The peers of a record: sorted, less the expunged. -/
def kept (ps es : List ByteArray) : List ByteArray := ((sortS (ps.map raw)).map back).filter fun s => !memS es s

theorem sorted_sizes {ps : List ByteArray} (h : ∀ s ∈ ps, s.size ≤ maxLen) : ∀ s ∈ (sortS (ps.map raw)).map back, s.size ≤ maxLen := by
  intro s hs
  obtain ⟨l, hl, rfl⟩ := List.mem_map.1 hs
  have : l ∈ ps.map raw := (List.mergeSort_perm _ _).mem_iff.1 hl
  obtain ⟨t, ht, rfl⟩ := List.mem_map.1 this
  simpa using h t ht

/-- The site's box while the statement runs. -/
abbrev RecS (w : World) (nm : ByteArray) (vp ve : Value) (w' : World) : Prop :=
  w'.cell? ⟨w.heap.size, 0, none⟩ = some (.string nm) ∧ w'.cell? ⟨w.heap.size, 1, none⟩ = some vp ∧ w'.cell? ⟨w.heap.size, 2, none⟩ = some ve ∧ w.heap.size + 1 ≤ w'.heap.size ∧ Below w.heap.size w w'

theorem RecS.start (w : World) (nm : ByteArray) (vp ve : Value) : RecS w nm vp ve (w.alloc (.cells #[.string nm, vp, ve] 52)).drew := by
  refine ⟨?_, ?_, ?_, by simp, ((Below.refl _ _).alloc (Nat.le_refl _) _).drew⟩
  all_goals simp [go_sem]

theorem RecS.le {w w1 : World} {nm : ByteArray} {vp ve : Value} (h : RecS w nm vp ve w1) : w.heap.size + 1 ≤ w1.heap.size := h.2.2.2.1

theorem RecS.step {w w1 w2 : World} {nm : ByteArray} {vp ve : Value} {B : Nat} (h : RecS w nm vp ve w1) (hB : w.heap.size + 1 ≤ B) (hb : Below B w1 w2) : RecS w nm vp ve w2 := by
  obtain ⟨h0, h1, h2, h3, h4⟩ := h
  have hc : ∀ j, w2.cell? ⟨w.heap.size, j, none⟩ = w1.cell? ⟨w.heap.size, j, none⟩ := fun j => hb.cell (by simp; omega)
  have hz := hb.size
  exact ⟨(hc 0).trans h0, (hc 1).trans h1, (hc 2).trans h2, by omega, h4.trans (hb.mono (by omega))⟩

theorem RecS.next {w w1 w2 : World} {nm : ByteArray} {vp ve : Value} (h : RecS w nm vp ve w1) (hb : Below w1.heap.size w1 w2) : RecS w nm vp ve w2 := h.step h.le hb

/-- Five cells of the block ps are written. -/
abbrev five (w : World) (ps : Nat) (v0 v1 v2 v3 v4 : Value) : World :=
  ((((w.setCell ⟨ps, 0, none⟩ v0).setCell ⟨ps, 1, none⟩ v1).setCell ⟨ps, 2, none⟩ v2).setCell ⟨ps, 3, none⟩ v3).setCell ⟨ps, 4, none⟩ v4

theorem five_size (w : World) (ps : Nat) (v0 v1 v2 v3 v4 : Value) : (five w ps v0 v1 v2 v3 v4).heap.size = w.heap.size := by simp
theorem five_other (w : World) (ps : Nat) (v0 v1 v2 v3 v4 : Value) {k : Nat} (hk : k ≠ ps) : (five w ps v0 v1 v2 v3 v4).heap[k]? = w.heap[k]? := by
  unfold five
  rw [Below.heap_setCell _ _ _ _ (by simpa using hk), Below.heap_setCell _ _ _ _ (by simpa using hk), Below.heap_setCell _ _ _ _ (by simpa using hk), Below.heap_setCell _ _ _ _ (by simpa using hk), Below.heap_setCell _ _ _ _ (by simpa using hk)]

theorem five_zero (w : World) (ps : Nat) (v0 v1 v2 v3 v4 : Value) : Below 0 w (five w ps v0 v1 v2 v3 v4) :=
  (((((Below.refl 0 w).setCell (p := ⟨ps, 0, none⟩) (Nat.zero_le _) v0).setCell (p := ⟨ps, 1, none⟩) (Nat.zero_le _) v1).setCell (p := ⟨ps, 2, none⟩) (Nat.zero_le _) v2).setCell (p := ⟨ps, 3, none⟩) (Nat.zero_le _) v3).setCell (p := ⟨ps, 4, none⟩) (Nat.zero_le _) v4

theorem cell_set_same {w : World} {a : Addr} {o v : Value} (h : w.cell? a = some o) : (w.setCell a v).cell? a = some v := World.cell?_setCell_same' _ _ _ (by rw [h]; rfl)
theorem cell_set_other {w : World} {b i j : Nat} {o v : Value} (h : w.cell? ⟨b, i, none⟩ = some o) (hij : i ≠ j) : (w.setCell ⟨b, j, none⟩ v).cell? ⟨b, i, none⟩ = some o := by
  rw [World.cell?_setCell_other _ _ _ _ (fun e => hij (by cases e; rfl))]
  exact h

theorem five_cells {w : World} {ps : Nat} {o0 o1 o2 o3 o4 : Value} (v0 v1 v2 v3 v4 : Value) (d0 : w.cell? ⟨ps, 0, none⟩ = some o0) (d1 : w.cell? ⟨ps, 1, none⟩ = some o1) (d2 : w.cell? ⟨ps, 2, none⟩ = some o2) (d3 : w.cell? ⟨ps, 3, none⟩ = some o3) (d4 : w.cell? ⟨ps, 4, none⟩ = some o4) :
    (five w ps v0 v1 v2 v3 v4).cell? ⟨ps, 0, none⟩ = some v0 ∧ (five w ps v0 v1 v2 v3 v4).cell? ⟨ps, 1, none⟩ = some v1 ∧ (five w ps v0 v1 v2 v3 v4).cell? ⟨ps, 2, none⟩ = some v2 ∧ (five w ps v0 v1 v2 v3 v4).cell? ⟨ps, 3, none⟩ = some v3 ∧ (five w ps v0 v1 v2 v3 v4).cell? ⟨ps, 4, none⟩ = some v4 := by
  unfold five
  refine ⟨?_, ?_, ?_, ?_, ?_⟩
  · exact cell_set_other (cell_set_other (cell_set_other (cell_set_other (cell_set_same d0) (by decide)) (by decide)) (by decide)) (by decide)
  · exact cell_set_other (cell_set_other (cell_set_other (cell_set_same (cell_set_other d1 (by decide))) (by decide)) (by decide)) (by decide)
  · exact cell_set_other (cell_set_other (cell_set_same (cell_set_other (cell_set_other d2 (by decide)) (by decide))) (by decide)) (by decide)
  · exact cell_set_other (cell_set_same (cell_set_other (cell_set_other (cell_set_other d3 (by decide)) (by decide)) (by decide))) (by decide)
  · exact cell_set_same (cell_set_other (cell_set_other (cell_set_other (cell_set_other d4 (by decide)) (by decide)) (by decide)) (by decide))

theorem cell_alloc {w : World} {a : Addr} {v : Value} (o : Obj) (h : w.cell? a = some v) : (w.alloc o).cell? a = some v := by
  rw [World.cell?_of_block (w := w) (Below.heap_alloc w o a.block (cell_lt h))]
  exact h

/-- What record leaves. -/
def Recorded (ps : Nat) (round seq loc : Int) (nm : ByteArray) (pl es : List ByteArray) (w w' : World) (mb fb : Nat) (pv : Value) : Prop :=
  (w'.cell? ⟨ps, 0, none⟩ = some (.int .u64 round) ∧ w'.cell? ⟨ps, 1, none⟩ = some (.map (some mb)) ∧ w'.cell? ⟨ps, 2, none⟩ = some (.map (some fb)) ∧ w'.cell? ⟨ps, 3, none⟩ = some (.string nm) ∧ w'.cell? ⟨ps, 4, none⟩ = some (.int .u64 loc)) ∧
  MapIs mkR w.heap.size w'.heap.size w' (some mb) 1 (mapOf [(nm, .agg #[.int .u64 seq, pv])]) ∧ MapIs fiR w.heap.size w'.heap.size w' (some fb) 0 (.map []) ∧ mb ≠ fb ∧ StrsAt w.heap.size w'.heap.size w' pv (kept pl es) ∧ w.grownBy w' (some ps)

theorem recorded {ps : Nat} {round seq loc : Int} {nm : ByteArray} {pl es : List ByteArray} {w w3 w5 : World} {pv o0 o1 o2 o3 o4 : Value} {lo : Nat} (hps : ps < w.heap.size) (hlo : w.heap.size ≤ lo) (hb3 : w.heap.size < w3.heap.size)
    (d0 : w5.cell? ⟨ps, 0, none⟩ = some o0) (d1 : w5.cell? ⟨ps, 1, none⟩ = some o1) (d2 : w5.cell? ⟨ps, 2, none⟩ = some o2) (d3 : w5.cell? ⟨ps, 3, none⟩ = some o3) (d4 : w5.cell? ⟨ps, 4, none⟩ = some o4)
    (ho : w5.ownsMap Try.prog 9 mkR w3.heap.size (0 + 1) ((DataW.map []).put (key nm) (.held (.agg #[.int .u64 seq, pv])))) (hst : StrsAt lo w3.heap.size w3 pv (kept pl es)) (hk : ∀ k, k < w3.heap.size → w5.heap[k]? = w3.heap[k]?) (hbw : Below w.heap.size w w3) (hg : (w3.alloc (.map #[] 0)).grownBy w5 (some w3.heap.size)) (hz : (w3.alloc (.map #[] 0)).heap.size ≤ w5.heap.size) :
    Recorded ps round seq loc nm pl es w ((five w5 ps (.int .u64 round) (.map (some w3.heap.size)) (.map (some w5.heap.size)) (.string nm) (.int .u64 loc)).alloc (.map #[] 0)) w3.heap.size w5.heap.size pv := by
  obtain ⟨e0, e1, e2, e3, e4⟩ := five_cells (.int .u64 round) (.map (some w3.heap.size)) (.map (some w5.heap.size)) (.string nm) (.int .u64 loc) d0 d1 d2 d3 d4
  have hz' : w3.heap.size + 1 ≤ w5.heap.size := by simpa using hz
  generalize hW : five w5 ps (.int .u64 round) (.map (some w3.heap.size)) (.map (some w5.heap.size)) (.string nm) (.int .u64 loc) = W at *
  have hsz : W.heap.size = w5.heap.size := by rw [← hW]; exact five_size _ _ _ _ _ _ _
  have hoth : ∀ k, k ≠ ps → W.heap[k]? = w5.heap[k]? := fun k hk => by rw [← hW]; exact five_other _ _ _ _ _ _ _ hk
  have hno := hbw.size
  have hold : ∀ k, k < w3.heap.size → k ≠ ps → (W.alloc (.map #[] 0)).heap[k]? = w3.heap[k]? := fun k h1 h2 => ((Below.heap_alloc _ _ _ (by omega)).trans (hoth k h2)).trans (hk k h1)
  have hos : Below 0 w5 W := by rw [← hW]; exact five_zero _ _ _ _ _ _ _
  refine ⟨⟨cell_alloc _ e0, cell_alloc _ e1, cell_alloc _ e2, cell_alloc _ e3, cell_alloc _ e4⟩, ⟨by omega, by simp; omega, ?_⟩, ⟨by omega, by simp; omega, ?_⟩, by omega, ?_, ?_⟩
  · exact ownsMap_block ho ((Below.heap_alloc _ _ _ (by omega)).trans (hoth _ (by omega)))
  · rw [← hsz]
    exact World.ownsMap_made W _ _ _
  · refine (hst.same (w' := W.alloc (.map #[] 0)) (fun k h1 h2 => hold k h2 (by omega))).mono hlo (by simp; omega)
  · have hg1 := hg.os; have hg2 := hg.tape; have hg3 := hg.output
    refine ⟨?_, ?_, ?_, by simp; omega, fun k h1 h2 => (hold k (by omega) (fun e => h2 (by rw [e]))).trans (hbw.block k h1)⟩
    · exact (hos.os.trans hg1).trans hbw.os
    · exact (hos.tape.trans hg2).trans hbw.tape
    · exact (hos.output.trans hg3).trans hbw.output

set_option maxRecDepth 100000 in
set_option maxHeartbeats 1600000 in
theorem record_any (ps : Nat) (round seq loc : Int) (nm : ByteArray) (a1 : Option Addr) (n1 k1 : Nat) (ve : Value) (pl es : List ByteArray) (o0 o1 o2 o3 o4 : Value) (w : World) {lo hi : Nat} (hp : StrsAt lo hi w (.slice a1 n1 k1) pl) (he : StrsAt lo hi w ve es) (hh : hi ≤ w.heap.size) (hnm : nm.size ≤ maxLen)
    (hps : ps < w.heap.size) (c0 : w.cell? ⟨ps, 0, none⟩ = some o0) (c1 : w.cell? ⟨ps, 1, none⟩ = some o1) (c2 : w.cell? ⟨ps, 2, none⟩ = some o2) (c3 : w.cell? ⟨ps, 3, none⟩ = some o3) (c4 : w.cell? ⟨ps, 4, none⟩ = some o4)
    (f0 : w.frozen? ⟨ps, 0, none⟩ = false) (f1 : w.frozen? ⟨ps, 1, none⟩ = false) (f2 : w.frozen? ⟨ps, 2, none⟩ = false) (f3 : w.frozen? ⟨ps, 3, none⟩ = false) (f4 : w.frozen? ⟨ps, 4, none⟩ = false) :
    Calls Try.prog 49 #[.pointer (some ⟨ps, 0, none⟩), .int .u64 round, .agg #[.string nm, .slice a1 n1 k1, ve], .int .u64 seq, .int .u64 loc] w fun e w' => e = .returned (.tuple #[]) ∧ ∃ mb fb pa pn pc, Recorded ps round seq loc nm pl es w w' mb fb (.slice pa pn pc) := by
  have hll : pl.length * 16 ≤ 140737488351232 := by
    obtain ⟨⟨ao, cap, _, _, h2, _⟩, _⟩ := hp
    simpa using h2
  have k59 : ∀ B w1, RecS w nm (.slice a1 n1 k1) ve w1 → B < w1.heap.size → w1.cell? ⟨B, 0, none⟩ = some (.slice a1 n1 k1) → Calls Try.prog 59 #[.func (.func 65) #[] #[.pointer (some ⟨B, 0, none⟩)]] w1 fun e w' => ∃ v', e = .returned v' ∧ w'.ownsRow w1.heap.size 9 1 v' pl.length ((sortS (pl.map raw)).map Go.Proofs.encStr) ∧ Below w1.heap.size w1 w' := fun B w1 hS hB hc =>
    sorted_b B _ pl w1 hB hc (hp.same (Same.below hS.2.2.2.2 hh)) (by have := hS.2.2.2.1; omega) hll
  have k58 : ∀ base v w1, RecS w nm (.slice a1 n1 k1) ve w1 → w.heap.size + 1 ≤ base → base ≤ w1.heap.size → w1.ownsRow base 9 1 v pl.length ((sortS (pl.map raw)).map encStr) → Calls Try.prog 58 #[v, goneV nm (.slice a1 n1 k1) ve] w1 fun e w' => ∃ b n c, e = .returned (.slice b n c) ∧ StrsAt base w'.heap.size w' (.slice b n c) (kept pl es) ∧ Below base w1 w' := fun base v w1 hS h1 h2 hrow => by
    have hl : ((sortS (pl.map raw)).map back).length = pl.length := by simp [sortS]
    refine (deleteFunc_any nm (.slice a1 n1 k1) ve v es ((sortS (pl.map raw)).map back) w1 (he.same (Same.below hS.2.2.2.2 hh)) (by omega) ?_ (by rw [hl]; exact hll) (sorted_sizes hp.2) h2).mono ?_
    · rw [hl, List.map_map]
      exact hrow
    · rintro e w' ⟨v', rfl, h3, h4⟩
      obtain ⟨b, c, hv⟩ := h3.shape
      exact ⟨b, _, c, by rw [hv], by rw [← hv]; exact h3, h4⟩
  have hmm := @run_makeMap Try.prog
  have K59 := hide k59
  have K58 := hide k58
  clear k59 k58 hp he
  go_enter Try.func49, Try.ntmps49
  go_wp2_with fail
  go_region_held3 (fun w' => w'.cell? ⟨w.heap.size, 0, none⟩ = some (.string nm) ∧ w'.cell? ⟨w.heap.size, 1, none⟩ = some (.slice a1 n1 k1) ∧ w'.cell? ⟨w.heap.size, 2, none⟩ = some ve ∧ w.heap.size + 1 ≤ w'.heap.size ∧ Below w.heap.size w w') (first | with_reducible assumption | with_reducible exact RecS.next (w := w) (nm := nm) (vp := .slice a1 n1 k1) (ve := ve) (by assumption) (by assumption) | with_reducible exact RecS.step (w := w) (nm := nm) (vp := .slice a1 n1 k1) (ve := ve) (by assumption) hB3 (by assumption) | with_reducible exact RecS.start w nm (.slice a1 n1 k1) ve) (first | (go_at_call 60; refine (values_some a1 n1 k1 _).mono ?_; rintro e w1 ⟨B1, rfl, hB1, b1⟩) | (go_at_call 59; refine (unhide K59 B1 _ ?_ hB1.1 hB1.2).mono ?_; assumption; rintro e w2 ⟨v2, rfl, hrow2, b2⟩) | (go_at_call 58; have hB3 : w.heap.size + 1 ≤ w1.heap.size := (by have h := b1.size; simpa using h); refine (unhide K58 w1.heap.size v2 _ ?_ hB3 b2.size hrow2).mono ?_; assumption; rintro e w3 ⟨pb, pn, pc, rfl, hst, b3⟩))
  all_goals
    rename_i hHeld
    obtain ⟨s0, s1, s2, hle, hbw⟩ := hHeld
    obtain ⟨w5, hrun, hown5, hg5⟩ := (World.ownsMap_made w3 Try.prog 9 mkR).update law9 Try.underlying33 (by simp [maxLen]) (keyOf9 hnm) (mkR_mk seq pb pn pc)
    have hsz5 := hg5.size
    have hkeep : ∀ k, k < w3.heap.size → w5.heap[k]? = w3.heap[k]? := fun k hk => (hg5.block k (by simp; omega) (by simp; omega)).trans (Below.heap_alloc _ _ _ hk)
    have hcell : ∀ a : Addr, a.block < w3.heap.size → w5.cell? a = w3.cell? a := fun a ha => World.cell?_of_block (hkeep a.block ha)
    have hfroz : ∀ a : Addr, a.block < w3.heap.size → w5.frozen? a = w3.frozen? a := fun a ha => World.frozen?_of_block (hkeep a.block ha)
    have hps3 : ps < w3.heap.size := by omega
    have d0 := ((hcell ⟨ps, 0, none⟩ hps3).trans (hbw.cell hps)).trans c0
    have d1 := ((hcell ⟨ps, 1, none⟩ hps3).trans (hbw.cell hps)).trans c1
    have d2 := ((hcell ⟨ps, 2, none⟩ hps3).trans (hbw.cell hps)).trans c2
    have d3 := ((hcell ⟨ps, 3, none⟩ hps3).trans (hbw.cell hps)).trans c3
    have d4 := ((hcell ⟨ps, 4, none⟩ hps3).trans (hbw.cell hps)).trans c4
    have g0 := ((hfroz ⟨ps, 0, none⟩ hps3).trans (hbw.frozen hps)).trans f0
    have g1 := ((hfroz ⟨ps, 1, none⟩ hps3).trans (hbw.frozen hps)).trans f1
    have g2 := ((hfroz ⟨ps, 2, none⟩ hps3).trans (hbw.frozen hps)).trans f2
    have g3 := ((hfroz ⟨ps, 3, none⟩ hps3).trans (hbw.frozen hps)).trans f3
    have g4 := ((hfroz ⟨ps, 4, none⟩ hps3).trans (hbw.frozen hps)).trans f4
    have t0 := (hcell ⟨w.heap.size, 0, none⟩ (by simp; omega)).trans s0
    have hps5 : ps < w5.heap.size := by simp at hsz5; omega
    have hb5 : w.heap.size < w5.heap.size := by simp at hsz5; omega
    have hb3 : w.heap.size < w3.heap.size := by omega
    have HO := hide hown5
    have HST := hide hst
    have HK := hide hkeep
    have HBW := hide hbw
    have HG := hide hg5
    have HZ := hide hsz5
    clear hown5 hst hkeep hbw hg5 b1 b2 b3 hrow2 hB1 c0 c1 c2 c3 c4 f0 f1 f2 f3 f4 hcell hfroz hsz5
    go_wp2
    go_end0
    exact ⟨rfl, _, _, pb, pn, pc, recorded hps (by omega) hb3 d0 d1 d2 d3 d4 (unhide HO) (unhide HST) (unhide HK) (unhide HBW) (unhide HG) (unhide HZ)⟩
end Go.Proofs.Qxb6601448a
