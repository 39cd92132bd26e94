/- The walks of markersMatch (26) and finalsMatch (27), where they say yes. -/
import Derived.Test.Qxb6601448aWEnts
import Derived.Test.Qxb6601448aRange
namespace Go.Proofs.Qxb6601448a
open Go.RowKit
set_option linter.unusedVariables false

theorem marker_inj {D : DataW Value} {k : Lit} {zd : DataW Value} {z z2 : Int} {a a2 : Option Addr} {n n2 c c2 : Nat} (h : D.atKey k zd = .held (mkV (z, a, n, c))) (h2 : D.atKey k zd = .held (.agg #[.int .u64 z2, .slice a2 n2 c2])) : z2 = z ∧ a2 = a ∧ n2 = n ∧ c2 = c := by
  have e := h2.symm.trans h
  simp only [mkV, DataW.held.injEq] at e
  simpa using e
theorem final_inj {D : DataW Value} {k : Lit} {zd : DataW Value} {z z2 : Int} (h : D.atKey k zd = .held (.int .u64 z)) (h2 : D.atKey k zd = .held (.int .u64 z2)) : z2 = z := by
  have e := h2.symm.trans h
  simp only [DataW.held.injEq] at e
  simpa using e

set_option maxRecDepth 100000 in
set_option maxHeartbeats 1000000 in
theorem finalsMatch_true (mo : Option Nat) (v : Value) (es : List (ByteArray × Int)) (D : DataW Value) (w : World) {lo hi n : Nat} (hM : MapIs fiR lo hi w mo n D) (hE : EntsAt 2 fCells lo hi w v es) (hh : hi ≤ w.heap.size) (hF : Fits (Value.int .u64) D es) :
    Calls Try.prog 27 #[.map mo, v] w fun e w' => e = .returned (.bool true) ∧ Below w.heap.size w w' := by
  have hsz := hF.size hM
  obtain ⟨g, cap, rfl, _, gh, hcap, hb, hs, hc⟩ := hE
  cases mo with
  | none =>
    have hD : D = .map [] := hM
    subst hD
    obtain rfl : es = [] := List.eq_nil_of_length_eq_zero (by rw [← hsz]; rfl)
    clear hM hF hc hs hsz
    go_enter Try.func27, Try.ntmps27
    go_wp2
    refine wp_loop_rounds 1 ?_
    rw [rounds_succ]
    go_wp2
    go_ret
    exact ⟨rfl, Below.refl _ _⟩
  | some b =>
    have HC : Hid (∀ k (hk : k < es.length), w.cell? ⟨g, k * 2, none⟩ = some (.string es[k].1) ∧ w.cell? ⟨g, k * 2 + 1, none⟩ = some (.int .u64 es[k].2)) := fun k hk => ⟨hc k 0 (by omega) hk, hc k 1 (by omega) hk⟩
    have HS : Hid (∀ k (hk : k < es.length), es[k].1.size ≤ maxLen) := fun k hk => hs _ (List.getElem_mem hk)
    have HV : Hid (∀ k (hk : k < es.length), Maps.has D (key es[k].1) = true ∧ ∀ zd, D.atKey (key es[k].1) zd = .held (.int .u64 es[k].2)) := fun k hk => ⟨(hF.keys _).2 ⟨es[k], List.getElem_mem hk, rfl⟩, hF.vals _ (List.getElem_mem hk)⟩
    have hown := hM.2.2
    have HM := hide hM
    clear hF hc hs hM
    obtain ⟨len, hlen⟩ : ∃ len, len = es.length := ⟨_, rfl⟩
    have HL := hide hlen
    rw [← hlen] at hcap hb hsz ⊢
    clear hlen
    go_enter Try.func27, Try.ntmps27
    go_wp2_with (first | (refine wpList_len_own _ rfl (.tmp 8) 34 rfl 9 22 Try.underlying34 fiR b n D rfl hown ?_; rw [hsz]) | fail)
    clear hown hsz
    go_loop [5, 6, 7] (fun vi vv vo => ∃ k : Nat, k ≤ len ∧ vi = .int .i64 k) (fun vi _ _ => len - (intOf vi).toNat)
    case atStart => exact ⟨0, Nat.zero_le _, rfl⟩
    case round =>
      obtain ⟨k, hk, rfl⟩ := hrel
      by_cases hlt : k < len
      · have hk' : k < es.length := by rw [← unhide HL]; exact hlt
        obtain ⟨c0, c1⟩ := unhide HC k hk'
        obtain ⟨hv1, hv2⟩ := unhide HV k hk'
        have hs1 := unhide HS k hk'
        obtain ⟨p, hp⟩ : ∃ p, p = es[k] := ⟨_, rfl⟩
        rw [← hp] at c0 c1 hv1 hv2 hs1
        obtain ⟨s, z⟩ := p
        clear hp
        simp only at c0 c1 hv1 hv2 hs1
        have HV2 := hide hv2
        clear hv2 HC HV
        go_wp2_with (first | (at_lookup; refine look_final _ rfl _ _ rfl (some b) lo hi n D rfl (unhide HM) s rfl hs1 ?_; intro z2 hat2; obtain rfl := final_inj (unhide HV2 _) hat2) | fail)
        go_round
        case rel => exact ⟨k + 1, by omega, by go_num⟩
        case measure => simp [intOf]; omega
      · obtain rfl : k = len := by omega
        go_wp2
        go_ret
        exact ⟨rfl, Below.refl _ _⟩

/-- What the model says of a marker is what the map holds, read through the two slices of peers. -/
def Agrees (H : Nat) (w : World) (D : DataW Value) (p : ByteArray × MV) : Prop :=
  Maps.has D (key p.1) = true ∧ ∃ a n c ss, (∀ zd, D.atKey (key p.1) zd = .held (mkV (p.2.1, a, n, c))) ∧ StrsAt 0 H w (.slice p.2.2.1 p.2.2.2.1 p.2.2.2.2) ss ∧ StrsAt 0 H w (.slice a n c) ss

theorem Agrees.same {H : Nat} {w w' : World} {D : DataW Value} {p : ByteArray × MV} (h : Agrees H w D p) (hs : Same 0 H w w') : Agrees H w' D p := by
  obtain ⟨h1, a, n, c, ss, h2, h3, h4⟩ := h
  exact ⟨h1, a, n, c, ss, h2, h3.same hs, h4.same hs⟩

/-- What the comparison of a marker reads. -/
abbrev MS (B g k : Nat) (z : Int) (v u : Value) (w' : World) : Prop :=
  w'.cell? ⟨B, 0, none⟩ = some (.int .u64 z) ∧ w'.cell? ⟨B, 1, none⟩ = some v ∧ w'.cell? ⟨g, k * 3 + 1, none⟩ = some (.int .u64 z) ∧ w'.cell? ⟨g, k * 3 + 2, none⟩ = some u
theorem MS.start {wr : World} {g k : Nat} {z : Int} {v u : Value} (c1 : wr.cell? ⟨g, k * 3 + 1, none⟩ = some (.int .u64 z)) (c2 : wr.cell? ⟨g, k * 3 + 2, none⟩ = some u) : MS wr.heap.size g k z v u (wr.alloc (.cells #[.int .u64 z, v] 86)).drew := by
  refine ⟨?_, ?_, cell_alloc _ c1, cell_alloc _ c2⟩
  all_goals simp [go_sem]
theorem MS.step {B g k : Nat} {z : Int} {v u : Value} {w1 w2 : World} (h : MS B g k z v u w1) (b : Below w1.heap.size w1 w2) : MS B g k z v u w2 := by
  obtain ⟨c0, c1, c2, c3⟩ := h
  have hc : ∀ a v, w1.cell? a = some v → w2.cell? a = some v := fun a v h => (b.cell (cell_lt h)).trans h
  exact ⟨hc _ _ c0, hc _ _ c1, hc _ _ c2, hc _ _ c3⟩

set_option maxRecDepth 100000 in
set_option maxHeartbeats 2000000 in
theorem markersMatch_true (mo : Option Nat) (v : Value) (es : List (ByteArray × MV)) (D : DataW Value) (w : World) {lo hi n H : Nat} (hM : MapIs mkR lo hi w mo n D) (hE : EntsAt 3 mCells lo hi w v es) (hh : hi ≤ w.heap.size) (hH : H ≤ w.heap.size) (hsz : Maps.size D = es.length) (hA : ∀ p ∈ es, Agrees H w D p) :
    Calls Try.prog 26 #[.map mo, v] w fun e w' => e = .returned (.bool true) ∧ Below w.heap.size w w' := by
  obtain ⟨g, cap, rfl, _, gh, hcap, hb, hs, hc⟩ := hE
  cases mo with
  | none =>
    have hD : D = .map [] := hM
    subst hD
    obtain rfl : es = [] := List.eq_nil_of_length_eq_zero (by rw [← hsz]; rfl)
    clear hM hA hc hs hsz
    go_enter Try.func26, Try.ntmps26
    go_wp2
    refine wp_loop_rounds 1 ?_
    rw [rounds_succ]
    go_wp2
    go_ret
    exact ⟨rfl, Below.refl _ _⟩
  | some b =>
    have hgw : g < w.heap.size := by omega
    have HC : Hid (∀ k (hk : k < es.length), w.cell? ⟨g, k * 3, none⟩ = some (.string es[k].1) ∧ w.cell? ⟨g, k * 3 + 1, none⟩ = some (.int .u64 es[k].2.1) ∧ w.cell? ⟨g, k * 3 + 2, none⟩ = some (.slice es[k].2.2.1 es[k].2.2.2.1 es[k].2.2.2.2)) := fun k hk => ⟨hc k 0 (by omega) hk, hc k 1 (by omega) hk, hc k 2 (by omega) hk⟩
    have HS : Hid (∀ k (hk : k < es.length), es[k].1.size ≤ maxLen) := fun k hk => hs _ (List.getElem_mem hk)
    have HV : Hid (∀ k (hk : k < es.length), Agrees H w D es[k]) := fun k hk => hA _ (List.getElem_mem hk)
    have hown := hM.2.2
    have HM := hide hM
    clear hA hc hs hM
    obtain ⟨len, hlen⟩ : ∃ len, len = es.length := ⟨_, rfl⟩
    have HL := hide hlen
    rw [← hlen] at hcap hb hsz ⊢
    clear hlen
    go_enter Try.func26, Try.ntmps26
    go_wp2_with (first | (refine wpList_len_own _ rfl (.tmp 8) 33 rfl 9 86 Try.underlying33 mkR b n D rfl hown ?_; rw [hsz]) | fail)
    clear hown hsz
    go_loopw [5, 6, 7] (fun vi vv vo wr => ∃ k : Nat, k ≤ len ∧ vi = .int .i64 k ∧ Below w.heap.size w wr) (fun vi _ _ _ => len - (intOf vi).toNat)
    case atStart => exact ⟨0, Nat.zero_le _, rfl, Below.refl _ _⟩
    case round =>
      obtain ⟨k, hk, rfl, hbl⟩ := hrel
      by_cases hlt : k < len
      · have hk' : k < es.length := by rw [← unhide HL]; exact hlt
        obtain ⟨c0', c1', c2'⟩ := unhide HC k hk'
        have c0 := (hbl.cell (p := ⟨g, k * 3, none⟩) hgw).trans c0'
        have c1 := (hbl.cell (p := ⟨g, k * 3 + 1, none⟩) hgw).trans c1'
        have c2 := (hbl.cell (p := ⟨g, k * 3 + 2, none⟩) hgw).trans c2'
        obtain ⟨hv1, a, m, c, ss, hv2, t1, t2⟩ := (unhide HV k hk').same (Same.below hbl hH)
        have hs1 := unhide HS k hk'
        have hbs := hbl.size
        obtain ⟨p, hp⟩ : ∃ p, p = es[k] := ⟨_, rfl⟩
        rw [← hp] at c0 c1 c2 hv1 hv2 hs1 t1
        obtain ⟨s, z, pa, pn, pc⟩ := p
        simp only at c0 c1 c2 hv1 hv2 hs1 t1
        have HV2 := hide hv2
        have HMM := hide ((unhide HM).same (Same.below hbl hh))
        have HB := hide hbl
        have hgr : g < wr.heap.size := by omega
        have kS : ∀ w1, Below wr.heap.size wr w1 → Calls Try.prog 54 #[.slice a m c, .slice pa pn pc] w1 fun e w' => e = .returned (.bool true) ∧ Below w1.heap.size w1 w' := fun w1 b1 => sameStrs_true _ _ ss w1 (t2.same (Same.below b1 (by omega))) (t1.same (Same.below b1 (by omega)))
        have KS := hide kS
        clear hv2 HC HV hp t1 t2 kS hbl c0' c1' c2'
        go_wp2_with (first | (at_lookup; refine look_marker _ rfl _ _ rfl (some b) lo hi n D rfl (unhide HMM) s rfl hs1 ?_; intro z2 pa2 pn2 pc2 hat2; obtain ⟨rfl, rfl, rfl, rfl⟩ := marker_inj (unhide HV2 _) hat2) | fail)
        have C0 := hide (MS.start (v := .slice pa2 pn2 pc2) c1 c2)
        have hW : Below wr.heap.size wr (wr.alloc (.cells #[.int .u64 z2, .slice pa2 pn2 pc2] 86)).drew := ((Below.refl _ _).alloc (Nat.le_refl _) _).drew
        have HK := hide (unhide KS _ hW)
        have HW := hide hW
        clear hat2 HV2 HMM KS hW
        go_region_held3 (fun w' => w'.cell? ⟨wr.heap.size, 0, none⟩ = some (.int .u64 z2) ∧ w'.cell? ⟨wr.heap.size, 1, none⟩ = some (.slice pa2 pn2 pc2) ∧ w'.cell? ⟨g, k * 3 + 1, none⟩ = some (.int .u64 z2) ∧ w'.cell? ⟨g, k * 3 + 2, none⟩ = some (.slice pa pn pc)) (first | with_reducible exact unhide C0 | with_reducible assumption | with_reducible exact MS.step (B := wr.heap.size) (g := g) (k := k) (z := z2) (v := .slice pa2 pn2 pc2) (u := .slice pa pn pc) (by assumption) (by assumption)) (first | (go_at_call 54; refine (unhide HK).mono ?_; rintro e w7 ⟨rfl, b7⟩))
        have HB7 := hide b7
        clear b7 HK
        go_wp2
        go_roundw
        case rel => exact ⟨k + 1, by omega, by go_num, ((unhide HB).trans ((unhide HW).mono hbs)).trans ((unhide HB7).mono (by simp; omega))⟩
        case measure => simp [intOf]; omega
      · obtain rfl : k = len := by omega
        have HB := hide hbl
        clear hbl
        go_wp2
        go_ret
        exact ⟨rfl, unhide HB⟩

end Go.Proofs.Qxb6601448a
