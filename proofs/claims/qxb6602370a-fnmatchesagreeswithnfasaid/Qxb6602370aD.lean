/- The walk of zzGlobModel (8). -/
import Derived.Test.Qxb6602370aC
import Derived.Laws.MakeOwn
namespace Go.Proofs.Qxb6602370a
open Go.RowKit
set_option linter.unusedVariables false

theorem info4 : (Try.prog.info? 4).map (fun i => (i.zero, i.size, i.bytes)) = some (some (.bool false), 1, 1) := by kernel_rfl

theorem row_made {base : Nat} {w1 : World} {m g : Nat} {xs : List Value} (h : w1.ownsRow base 4 1 (.slice (some ⟨g, 0, none⟩) (m + 1 : Nat) (m + 1 : Nat)) (m + 1) xs) (hx : xs = List.replicate (m + 1) (.bool false)) : Row base g m (fun _ => false) w1 := by
  subst hx
  unfold Row
  rw [show ((List.range (m + 1)).map fun j => Value.bool false) = List.replicate (m + 1) (.bool false) by simp [List.map_const']]
  exact h

theorem Row.keptN {base g m : Nat} {f : Nat → Bool} {w w' : World} (h : Row base g m f w) (hg : w.grownBy w' none) : Row base g m f w' :=
  World.ownsRow.kept h hg (Or.inr (by simp [Value.ownBlock]))

/-- The loop's head: cur is the row gA, next the row gB. -/
def Head (anch : Bool) (c t : ByteArray) (w : World) (i gA gB : Nat) (fA fB : Nat → Bool) (wr : World) : Prop :=
  i ≤ t.size ∧ gA ≠ gB ∧ Row w.heap.size gA c.size fA wr ∧ Row w.heap.size gB c.size fB wr ∧ Nfa anch (byt c) (byt t) c.size t.size fA i ∧ Clos (byt c) fA c.size ∧ Below w.heap.size w wr

/-- Next is emptied below k. -/
def Wipe (c : ByteArray) (w : World) (gA gB : Nat) (fA fB : Nat → Bool) (k : Nat) (wr : World) : Prop :=
  Row w.heap.size gA c.size fA wr ∧ Row w.heap.size gB c.size (fun x => if x < k then false else fB x) wr ∧ Below w.heap.size w wr

theorem Wipe.next {c : ByteArray} {w wr : World} {gA gB : Nat} {fA fB : Nat → Bool} {k : Nat} (h : Wipe c w gA gB fA fB k wr) (hne : gA ≠ gB) : Wipe c w gA gB fA fB (k + 1) (wr.setCell ⟨gB, k, none⟩ (.bool false)) := by
  obtain ⟨h1, h2, h3⟩ := h
  have hp := h2.put k false
  refine ⟨h1.kept hp.2 hne, hp.1.congr fun j hj => ?_, h3.setCell h2.lt.1 _⟩
  by_cases hk : j = k
  · subst hk; simp
  · by_cases hj2 : j < k
    · simp [hk, hj2, show j < k + 1 by omega]
    · simp [hk, hj2, show ¬ j < k + 1 by omega]

/-- Next is built from the positions below k. -/
def Made (c : ByteArray) (w : World) (b : UInt8) (gA gB : Nat) (fA : Nat → Bool) (k : Nat) (g : Nat → Bool) (wr : World) : Prop :=
  Row w.heap.size gA c.size fA wr ∧ Row w.heap.size gB c.size g wr ∧ Step (byt c) b fA g k ∧ Below w.heap.size w wr

theorem Wipe.done {c : ByteArray} {w wr : World} {gA gB : Nat} {fA fB : Nat → Bool} (h : Wipe c w gA gB fA fB (c.size + 1) wr) (b : UInt8) : Made c w b gA gB fA 0 (fun _ => false) wr := by
  obtain ⟨h1, h2, h3⟩ := h
  exact ⟨h1, h2.congr fun j hj => by simp [show j < c.size + 1 by omega], Step.zero fun _ => rfl, h3⟩

theorem Made.put {c : ByteArray} {w wr : World} {b : UInt8} {gA gB : Nat} {fA g : Nat → Bool} {k : Nat} (h : Made c w b gA gB fA k g wr) (hne : gA ≠ gB) (j : Nat) (hs : Step (byt c) b fA (fun x => if x = j then true else g x) (k + 1)) : Made c w b gA gB fA (k + 1) (fun x => if x = j then true else g x) (wr.setCell ⟨gB, j, none⟩ (.bool true)) := by
  obtain ⟨h1, h2, h3, h4⟩ := h
  have hp := h2.put j true
  exact ⟨h1.kept hp.2 hne, hp.1, hs, h4.setCell h2.lt.1 _⟩

theorem Head.start {anch : Bool} {c t : ByteArray} {w w1 w2 w3 : World} {f3 : Nat → Bool} (h1 : w.grownBy w1 none ∧ Row w.heap.size w.heap.size c.size (fun _ => false) w1) (h2 : Row w.heap.size w1.heap.size c.size (fun _ => false) w2 ∧ Row w.heap.size w.heap.size c.size (fun _ => false) w2) (hb : Below w.heap.size w w2)
    (hr : Row w.heap.size w.heap.size c.size f3 w3) (hc : Closing c (fun x => if x = 0 then true else false) f3 c.size) (hg : (w2.setCell ⟨w.heap.size, 0, none⟩ (.bool true)).grownBy w3 (some w.heap.size)) : Head anch c t w 0 w.heap.size w1.heap.size f3 (fun _ => false) w3 := by
  have hlt := h1.2.lt.2
  have hp := h2.2.put 0 true
  refine ⟨Nat.zero_le _, by omega, hr, (h2.1.kept hp.2 (by omega)).kept hg (by omega), hc.2 _ _ _ _ (Nfa.start rfl fun j hj _ => by simp; omega), hc.1, ?_⟩
  exact (hb.setCell (Nat.le_refl _) _).grown hg (Nat.le_of_lt hp.1.lt.2) (fun k e => by cases e; exact Nat.le_refl _)

/-- Behind the round: the two rows have changed places. -/
theorem Head.next {anch : Bool} {c t : ByteArray} {w wr w2 : World} {i gA gB : Nat} {fA g g' : Nat → Bool} (hne : gA ≠ gB) (hn : Nfa anch (byt c) (byt t) c.size t.size fA i) (hcl : Clos (byt c) fA c.size) (hi : i < t.size) (hno : ¬ (fA c.size = true ∧ anch = false)) (hm : Made c w (byt t i) gA gB fA c.size g wr)
    (hr : Row w.heap.size gB c.size g' w2) (hc : Closing c g g' c.size) (hgr : wr.grownBy w2 (some gB)) : Head anch c t w (i + 1) gB gA g' fA w2 := by
  obtain ⟨h1, h2, h3, h4⟩ := hm
  refine ⟨by omega, fun e => hne e.symm, hr, h1.kept hgr hne, hc.2 _ _ _ _ (hn.step hcl hi hno h3), hc.1, ?_⟩
  exact h4.grown hgr (Nat.le_of_lt (Nat.lt_of_le_of_lt h1.lt.1 h1.lt.2)) (fun k e => by cases e; exact h2.lt.1)

set_option maxRecDepth 100000 in
set_option maxHeartbeats 1000000 in
theorem glob_some (c t : ByteArray) (hc : c.size ≤ 4096) (ht : t.size ≤ 4096) (w : World) (h0 : 0 < c.size) (hb1 : c.size - 1 < c.size) (hb2 : (((c[c.size - 1].toNat : Nat) : Int) == 36) = false) :
    Calls Try.prog 8 #[.string c, .string t] w fun e w' => Answers (Acc false (byt c) (byt t) c.size t.size 0 0) e ∧ Below w.heap.size w w' := by
  obtain ⟨i0, hi, hz0, hz1, hz2⟩ := info_parts info4
  have HZ2 := hide hz2
  clear hz2
  have HCS : Hid (c.size = c.size) := hide rfl
  go_enter Try.func8, Try.ntmps8
  go_wp2_with (first
    | (at_make; refine wpList_make_full _ rfl _ _ 29 rfl w.heap.size 4 i0 (.bool false) 1 Try.underlying29 hi hz0 hz1 _ _ _ _ (c.size + 1) rfl rfl (by have := unhide HCS; omega) (by have := unhide HCS; omega) (by rw [unhide HZ2]; omega) (by simp [maxLen]; omega) (unhide HR1).1.size ?_; intro w2 hown2 hgrow2; have HR2 := hide (And.intro (row_made hown2 (by simp [Value.cells, toList_madeCells_one])) ((unhide HR1).2.keptN hgrow2)); have HB2 := hide ((Below.refl w.heap.size w).grown ((unhide HR1).1) (Nat.le_refl _) (by simp) |>.grown hgrow2 (unhide HR1).1.size (by simp)); have hcell := (unhide HR2).2.cell (j := 0) (by omega); have hthaw := (unhide HR2).2.thaw 0; clear hown2 hgrow2)
    | (at_make; refine wpList_make_full _ rfl _ _ 29 rfl w.heap.size 4 i0 (.bool false) 1 Try.underlying29 hi hz0 hz1 _ _ _ _ (c.size + 1) rfl rfl (by have := unhide HCS; omega) (by have := unhide HCS; omega) (by rw [unhide HZ2]; omega) (by simp [maxLen]; omega) (Nat.le_refl _) ?_; intro w1 hown1 hgrow1; have HR1 := hide (And.intro hgrow1 (row_made hown1 (by simp [Value.cells, toList_madeCells_one]))); clear hown1 hgrow1)
    | (go_at_call 12; refine (close_any c hc w.heap.size _ _ _ ((unhide HR2).2.put 0 true).1).mono ?_; rintro e w3 ⟨rfl, f3, hr3, hcl3, hgr3⟩)
    | fail)
  have HH := hide (show Head false c t w 0 w.heap.size w1.heap.size f3 (fun _ => false) w3 from Head.start (unhide HR1) (unhide HR2) (unhide HB2) hr3 hcl3 hgr3)
  clear hr3 hcl3 hgr3 HR1 HR2 HB2 hcell hthaw
  go_loopw [7, 8, 9] (fun vA vB vi wr => ∃ (i gA gB : Nat) (fA fB : Nat → Bool), vA = .slice (some ⟨gA, 0, none⟩) (c.size + 1 : Nat) (c.size + 1 : Nat) ∧ vB = .slice (some ⟨gB, 0, none⟩) (c.size + 1 : Nat) (c.size + 1 : Nat) ∧ vi = .int .i64 i ∧ Head false c t w i gA gB fA fB wr) (fun _ _ vi _ => t.size - (intOf vi).toNat)
  case atStart => exact ⟨0, _, _, _, _, rfl, rfl, rfl, unhide HH⟩
  case round =>
    obtain ⟨i, gA, gB, fA, fB, rfl, rfl, rfl, hin, hne, hrA, hrB, hnfa, hclos, hbl⟩ := hrel
    have HA := hide hrA
    have HBr := hide hrB
    have HN := hide hnfa
    have HC0 := hide hclos
    have HL := hide hbl
    have HNE := hide hne
    have hcell := hrA.cell (Nat.le_refl c.size)
    clear hrA hrB hnfa hclos hbl hne HH
    generalize hq : fA c.size = q at hcell
    have HQ := hide hq
    clear hq
    by_cases hlt : i < t.size
    · cases q with
      | true =>
        go_wp2_with (fail)
        go_ret
        exact ⟨.yes ((unhide HN).early (by omega) (unhide HQ) rfl), unhide HL⟩
      | false =>
      have HW := hide (show Wipe c w gA gB fA fB 0 _ from ⟨unhide HA, unhide HBr, unhide HL⟩)
      clear HA HBr HL
      go_wp2_with (fail)
      clear hcell
      go_loopw [10] (fun vk wr => ∃ k : Nat, k ≤ c.size + 1 ∧ vk = .int .i64 k ∧ Wipe c w gA gB fA fB k wr) (fun vk _ => c.size + 1 - (intOf vk).toNat)
      case atStart => exact ⟨0, Nat.zero_le _, rfl, unhide HW⟩
      case round =>
        obtain ⟨k, hk, rfl, hw⟩ := hrel
        clear HW
        by_cases hlk : k < c.size + 1
        · have hcl := hw.2.1.cell (j := k) (by omega)
          have hth := hw.2.1.thaw k
          have HW1 := hide (hw.next (unhide HNE))
          clear hw
          generalize (if k < k then false else fB k) = q1 at hcl
          go_wp2_with (fail)
          go_round
          case rel => exact ⟨k + 1, by omega, by go_num, unhide HW1⟩
          case measure => simp [intOf]; omega
        · obtain rfl : k = c.size + 1 := by omega
          have HM := hide (hw.done (byt t i))
          clear hw
          go_wp2_with (fail)
          go_loopw [12] (fun vk wr => ∃ k : Nat, k ≤ c.size ∧ vk = .int .i64 k ∧ ∃ g, Made c w (byt t i) gA gB fA k g wr) (fun vk _ => c.size - (intOf vk).toNat)
          case atStart => exact ⟨0, Nat.zero_le _, rfl, _, unhide HM⟩
          case round =>
            obtain ⟨k, hk, rfl, g, hm⟩ := hrel
            clear HM
            have HM := hide hm
            by_cases hlk : k < c.size
            · have hca := hm.1.cell (j := k) (by omega)
              have hst := hm.2.2.1
              have HS := hide hst
              clear hst
              generalize hf : fA k = q1 at hca
              have HF := hide hf
              clear hf
              cases q1 with
              | false =>
                clear hm
                go_wp2_with (fail)
                go_round
                case rel => exact ⟨k + 1, by omega, by go_num, g, (unhide HM).1, (unhide HM).2.1, (unhide HS).off (Or.inl (unhide HF)), (unhide HM).2.2.2⟩
                case measure => simp [intOf]; omega
              | true =>
                by_cases h42 : byt c k = 42
                · have htst := byt_is hlk h42
                  have hcb := hm.2.1.cell (j := k) (by omega)
                  have hth := hm.2.1.thaw k
                  have HP := hide (hm.put (unhide HNE) k ((unhide HS).loops (unhide HF) h42 rfl))
                  clear hm h42
                  generalize g k = q2 at hcb
                  go_wp2_with (fail)
                  go_round
                  case rel => exact ⟨k + 1, by omega, by go_num, _, unhide HP⟩
                  case measure => simp [intOf]; omega
                · have htst := byt_isnt hlk h42
                  by_cases heq : byt c k = byt t i
                  · have hd := byt_same hlk hlt heq
                    have hcb := hm.2.1.cell (j := k + 1) (by omega)
                    have hth := hm.2.1.thaw (k + 1)
                    have HP := hide (hm.put (unhide HNE) (k + 1) ((unhide HS).goes (unhide HF) h42 heq rfl))
                    clear hm h42 heq
                    generalize g (k + 1) = q2 at hcb
                    go_wp2_with (fail)
                    go_round
                    case rel => exact ⟨k + 1, by omega, by go_num, _, unhide HP⟩
                    case measure => simp [intOf]; omega
                  · have hd := byt_other hlk hlt heq
                    have HP := hide (show Made c w (byt t i) gA gB fA (k + 1) g _ from ⟨hm.1, hm.2.1, (unhide HS).off (Or.inr ⟨h42, heq⟩), hm.2.2.2⟩)
                    clear hm h42 heq
                    go_wp2_with (fail)
                    go_round
                    case rel => exact ⟨k + 1, by omega, by go_num, g, unhide HP⟩
                    case measure => simp [intOf]; omega
            · obtain rfl : k = c.size := by omega
              clear hm
              go_wp2_with (first | (go_at_call 12; refine (close_any c hc w.heap.size _ _ _ (unhide HM).2.1).mono ?_; rintro e w3 ⟨rfl, f3, hr3, hcl3, hgr3⟩) | fail)
              have HH := hide (Head.next (unhide HNE) (unhide HN) (unhide HC0) hlt (by rw [unhide HQ]; simp) (unhide HM) hr3 hcl3 hgr3)
              clear hr3 hcl3 hgr3
              go_round
              case rel => exact ⟨i + 1, _, _, _, _, rfl, rfl, by go_num, unhide HH⟩
              case measure => simp [intOf]; omega
    · obtain rfl : i = t.size := by omega
      go_wp2_with (fail)
      go_ret
      exact ⟨⟨q, rfl, by rw [← unhide HQ]; exact ((unhide HN).last (unhide HC0)).symm⟩, unhide HL⟩

set_option maxRecDepth 100000 in
set_option maxHeartbeats 1000000 in
theorem glob_none (c t : ByteArray) (hc : c.size ≤ 4096) (ht : t.size ≤ 4096) (w : World) (h0 : ¬ 0 < c.size) :
    Calls Try.prog 8 #[.string c, .string t] w fun e w' => Answers (Acc false (byt c) (byt t) c.size t.size 0 0) e ∧ Below w.heap.size w w' := by
  obtain ⟨i0, hi, hz0, hz1, hz2⟩ := info_parts info4
  have HZ2 := hide hz2
  clear hz2
  have HCS : Hid (c.size = c.size) := hide rfl
  go_enter Try.func8, Try.ntmps8
  go_wp2_with (first
    | (at_make; refine wpList_make_full _ rfl _ _ 29 rfl w.heap.size 4 i0 (.bool false) 1 Try.underlying29 hi hz0 hz1 _ _ _ _ (c.size + 1) rfl rfl (by have := unhide HCS; omega) (by have := unhide HCS; omega) (by rw [unhide HZ2]; omega) (by simp [maxLen]; omega) (unhide HR1).1.size ?_; intro w2 hown2 hgrow2; have HR2 := hide (And.intro (row_made hown2 (by simp [Value.cells, toList_madeCells_one])) ((unhide HR1).2.keptN hgrow2)); have HB2 := hide ((Below.refl w.heap.size w).grown ((unhide HR1).1) (Nat.le_refl _) (by simp) |>.grown hgrow2 (unhide HR1).1.size (by simp)); have hcell := (unhide HR2).2.cell (j := 0) (by omega); have hthaw := (unhide HR2).2.thaw 0; clear hown2 hgrow2)
    | (at_make; refine wpList_make_full _ rfl _ _ 29 rfl w.heap.size 4 i0 (.bool false) 1 Try.underlying29 hi hz0 hz1 _ _ _ _ (c.size + 1) rfl rfl (by have := unhide HCS; omega) (by have := unhide HCS; omega) (by rw [unhide HZ2]; omega) (by simp [maxLen]; omega) (Nat.le_refl _) ?_; intro w1 hown1 hgrow1; have HR1 := hide (And.intro hgrow1 (row_made hown1 (by simp [Value.cells, toList_madeCells_one]))); clear hown1 hgrow1)
    | (go_at_call 12; refine (close_any c hc w.heap.size _ _ _ ((unhide HR2).2.put 0 true).1).mono ?_; rintro e w3 ⟨rfl, f3, hr3, hcl3, hgr3⟩)
    | fail)
  have HH := hide (show Head false c t w 0 w.heap.size w1.heap.size f3 (fun _ => false) w3 from Head.start (unhide HR1) (unhide HR2) (unhide HB2) hr3 hcl3 hgr3)
  clear hr3 hcl3 hgr3 HR1 HR2 HB2 hcell hthaw
  go_loopw [7, 8, 9] (fun vA vB vi wr => ∃ (i gA gB : Nat) (fA fB : Nat → Bool), vA = .slice (some ⟨gA, 0, none⟩) (c.size + 1 : Nat) (c.size + 1 : Nat) ∧ vB = .slice (some ⟨gB, 0, none⟩) (c.size + 1 : Nat) (c.size + 1 : Nat) ∧ vi = .int .i64 i ∧ Head false c t w i gA gB fA fB wr) (fun _ _ vi _ => t.size - (intOf vi).toNat)
  case atStart => exact ⟨0, _, _, _, _, rfl, rfl, rfl, unhide HH⟩
  case round =>
    obtain ⟨i, gA, gB, fA, fB, rfl, rfl, rfl, hin, hne, hrA, hrB, hnfa, hclos, hbl⟩ := hrel
    have HA := hide hrA
    have HBr := hide hrB
    have HN := hide hnfa
    have HC0 := hide hclos
    have HL := hide hbl
    have HNE := hide hne
    have hcell := hrA.cell (Nat.le_refl c.size)
    clear hrA hrB hnfa hclos hbl hne HH
    generalize hq : fA c.size = q at hcell
    have HQ := hide hq
    clear hq
    by_cases hlt : i < t.size
    · cases q with
      | true =>
        go_wp2_with (fail)
        go_ret
        exact ⟨.yes ((unhide HN).early (by omega) (unhide HQ) rfl), unhide HL⟩
      | false =>
      have HW := hide (show Wipe c w gA gB fA fB 0 _ from ⟨unhide HA, unhide HBr, unhide HL⟩)
      clear HA HBr HL
      go_wp2_with (fail)
      clear hcell
      go_loopw [10] (fun vk wr => ∃ k : Nat, k ≤ c.size + 1 ∧ vk = .int .i64 k ∧ Wipe c w gA gB fA fB k wr) (fun vk _ => c.size + 1 - (intOf vk).toNat)
      case atStart => exact ⟨0, Nat.zero_le _, rfl, unhide HW⟩
      case round =>
        obtain ⟨k, hk, rfl, hw⟩ := hrel
        clear HW
        by_cases hlk : k < c.size + 1
        · have hcl := hw.2.1.cell (j := k) (by omega)
          have hth := hw.2.1.thaw k
          have HW1 := hide (hw.next (unhide HNE))
          clear hw
          generalize (if k < k then false else fB k) = q1 at hcl
          go_wp2_with (fail)
          go_round
          case rel => exact ⟨k + 1, by omega, by go_num, unhide HW1⟩
          case measure => simp [intOf]; omega
        · obtain rfl : k = c.size + 1 := by omega
          have HM := hide (hw.done (byt t i))
          clear hw
          go_wp2_with (fail)
          go_loopw [12] (fun vk wr => ∃ k : Nat, k ≤ c.size ∧ vk = .int .i64 k ∧ ∃ g, Made c w (byt t i) gA gB fA k g wr) (fun vk _ => c.size - (intOf vk).toNat)
          case atStart => exact ⟨0, Nat.zero_le _, rfl, _, unhide HM⟩
          case round =>
            obtain ⟨k, hk, rfl, g, hm⟩ := hrel
            clear HM
            have HM := hide hm
            by_cases hlk : k < c.size
            · exact absurd hlk (by omega)
            · obtain rfl : k = c.size := by omega
              clear hm
              go_wp2_with (first | (go_at_call 12; refine (close_any c hc w.heap.size _ _ _ (unhide HM).2.1).mono ?_; rintro e w3 ⟨rfl, f3, hr3, hcl3, hgr3⟩) | fail)
              have HH := hide (Head.next (unhide HNE) (unhide HN) (unhide HC0) hlt (by rw [unhide HQ]; simp) (unhide HM) hr3 hcl3 hgr3)
              clear hr3 hcl3 hgr3
              go_round
              case rel => exact ⟨i + 1, _, _, _, _, rfl, rfl, by go_num, unhide HH⟩
              case measure => simp [intOf]; omega
    · obtain rfl : i = t.size := by omega
      go_wp2_with (fail)
      go_ret
      exact ⟨⟨q, rfl, by rw [← unhide HQ]; exact ((unhide HN).last (unhide HC0)).symm⟩, unhide HL⟩

set_option maxRecDepth 100000 in
set_option maxHeartbeats 1000000 in
theorem glob_anch (s t c : ByteArray) (hs : s.size ≤ 4096) (hc : c.size ≤ 4096) (ht : t.size ≤ 4096) (w : World) (h0 : 0 < s.size) (hb1 : s.size - 1 < s.size) (hb2 : (((s[s.size - 1].toNat : Nat) : Int) == 36) = true) (HC : Hid (c = s.extract 0 (s.size - 1))) (HCS : Hid (c.size = s.size - 1)) :
    Calls Try.prog 8 #[.string s, .string t] w fun e w' => Answers (Acc true (byt c) (byt t) c.size t.size 0 0) e ∧ Below w.heap.size w w' := by
  obtain ⟨i0, hi, hz0, hz1, hz2⟩ := info_parts info4
  have HZ2 := hide hz2
  clear hz2
  go_enter Try.func8, Try.ntmps8
  go_wp2_with (first
    | (at_make; refine wpList_make_full _ rfl _ _ 29 rfl w.heap.size 4 i0 (.bool false) 1 Try.underlying29 hi hz0 hz1 _ _ _ _ (c.size + 1) rfl rfl (by have := unhide HCS; omega) (by have := unhide HCS; omega) (by rw [unhide HZ2]; omega) (by simp [maxLen]; omega) (unhide HR1).1.size ?_; intro w2 hown2 hgrow2; have HR2 := hide (And.intro (row_made hown2 (by simp [Value.cells, toList_madeCells_one])) ((unhide HR1).2.keptN hgrow2)); have HB2 := hide ((Below.refl w.heap.size w).grown ((unhide HR1).1) (Nat.le_refl _) (by simp) |>.grown hgrow2 (unhide HR1).1.size (by simp)); have hcell := (unhide HR2).2.cell (j := 0) (by omega); have hthaw := (unhide HR2).2.thaw 0; clear hown2 hgrow2)
    | (at_make; refine wpList_make_full _ rfl _ _ 29 rfl w.heap.size 4 i0 (.bool false) 1 Try.underlying29 hi hz0 hz1 _ _ _ _ (c.size + 1) rfl rfl (by have := unhide HCS; omega) (by have := unhide HCS; omega) (by rw [unhide HZ2]; omega) (by simp [maxLen]; omega) (Nat.le_refl _) ?_; intro w1 hown1 hgrow1; have HR1 := hide (And.intro hgrow1 (row_made hown1 (by simp [Value.cells, toList_madeCells_one]))); clear hown1 hgrow1; simp only [← unhide HC]; simp only [← unhide HCS])
    | (go_at_call 12; refine (close_any c hc w.heap.size _ _ _ ((unhide HR2).2.put 0 true).1).mono ?_; rintro e w3 ⟨rfl, f3, hr3, hcl3, hgr3⟩)
    | fail)
  have HH := hide (show Head true c t w 0 w.heap.size w1.heap.size f3 (fun _ => false) w3 from Head.start (unhide HR1) (unhide HR2) (unhide HB2) hr3 hcl3 hgr3)
  clear hr3 hcl3 hgr3 HR1 HR2 HB2 hcell hthaw
  go_loopw [7, 8, 9] (fun vA vB vi wr => ∃ (i gA gB : Nat) (fA fB : Nat → Bool), vA = .slice (some ⟨gA, 0, none⟩) (c.size + 1 : Nat) (c.size + 1 : Nat) ∧ vB = .slice (some ⟨gB, 0, none⟩) (c.size + 1 : Nat) (c.size + 1 : Nat) ∧ vi = .int .i64 i ∧ Head true c t w i gA gB fA fB wr) (fun _ _ vi _ => t.size - (intOf vi).toNat)
  case atStart => exact ⟨0, _, _, _, _, rfl, rfl, rfl, unhide HH⟩
  case round =>
    obtain ⟨i, gA, gB, fA, fB, rfl, rfl, rfl, hin, hne, hrA, hrB, hnfa, hclos, hbl⟩ := hrel
    have HA := hide hrA
    have HBr := hide hrB
    have HN := hide hnfa
    have HC0 := hide hclos
    have HL := hide hbl
    have HNE := hide hne
    have hcell := hrA.cell (Nat.le_refl c.size)
    clear hrA hrB hnfa hclos hbl hne HH
    generalize hq : fA c.size = q at hcell
    have HQ := hide hq
    clear hq
    by_cases hlt : i < t.size
    · cases q with
      | true =>
        have HW := hide (show Wipe c w gA gB fA fB 0 _ from ⟨unhide HA, unhide HBr, unhide HL⟩)
        clear HA HBr HL
        go_wp2_with (fail)
        clear hcell
        go_loopw [10] (fun vk wr => ∃ k : Nat, k ≤ c.size + 1 ∧ vk = .int .i64 k ∧ Wipe c w gA gB fA fB k wr) (fun vk _ => c.size + 1 - (intOf vk).toNat)
        case atStart => exact ⟨0, Nat.zero_le _, rfl, unhide HW⟩
        case round =>
          obtain ⟨k, hk, rfl, hw⟩ := hrel
          clear HW
          by_cases hlk : k < c.size + 1
          · have hcl := hw.2.1.cell (j := k) (by omega)
            have hth := hw.2.1.thaw k
            have HW1 := hide (hw.next (unhide HNE))
            clear hw
            generalize (if k < k then false else fB k) = q1 at hcl
            go_wp2_with (fail)
            go_round
            case rel => exact ⟨k + 1, by omega, by go_num, unhide HW1⟩
            case measure => simp [intOf]; omega
          · obtain rfl : k = c.size + 1 := by omega
            have HM := hide (hw.done (byt t i))
            clear hw
            go_wp2_with (fail)
            go_loopw [12] (fun vk wr => ∃ k : Nat, k ≤ c.size ∧ vk = .int .i64 k ∧ ∃ g, Made c w (byt t i) gA gB fA k g wr) (fun vk _ => c.size - (intOf vk).toNat)
            case atStart => exact ⟨0, Nat.zero_le _, rfl, _, unhide HM⟩
            case round =>
              obtain ⟨k, hk, rfl, g, hm⟩ := hrel
              clear HM
              have HM := hide hm
              by_cases hlk : k < c.size
              · have hca := hm.1.cell (j := k) (by omega)
                have hst := hm.2.2.1
                have HS := hide hst
                clear hst
                generalize hf : fA k = q1 at hca
                have HF := hide hf
                clear hf
                cases q1 with
                | false =>
                  clear hm
                  go_wp2_with (fail)
                  go_round
                  case rel => exact ⟨k + 1, by omega, by go_num, g, (unhide HM).1, (unhide HM).2.1, (unhide HS).off (Or.inl (unhide HF)), (unhide HM).2.2.2⟩
                  case measure => simp [intOf]; omega
                | true =>
                  by_cases h42 : byt c k = 42
                  · have htst := byt_is hlk h42
                    have hcb := hm.2.1.cell (j := k) (by omega)
                    have hth := hm.2.1.thaw k
                    have HP := hide (hm.put (unhide HNE) k ((unhide HS).loops (unhide HF) h42 rfl))
                    clear hm h42
                    generalize g k = q2 at hcb
                    go_wp2_with (fail)
                    go_round
                    case rel => exact ⟨k + 1, by omega, by go_num, _, unhide HP⟩
                    case measure => simp [intOf]; omega
                  · have htst := byt_isnt hlk h42
                    by_cases heq : byt c k = byt t i
                    · have hd := byt_same hlk hlt heq
                      have hcb := hm.2.1.cell (j := k + 1) (by omega)
                      have hth := hm.2.1.thaw (k + 1)
                      have HP := hide (hm.put (unhide HNE) (k + 1) ((unhide HS).goes (unhide HF) h42 heq rfl))
                      clear hm h42 heq
                      generalize g (k + 1) = q2 at hcb
                      go_wp2_with (fail)
                      go_round
                      case rel => exact ⟨k + 1, by omega, by go_num, _, unhide HP⟩
                      case measure => simp [intOf]; omega
                    · have hd := byt_other hlk hlt heq
                      have HP := hide (show Made c w (byt t i) gA gB fA (k + 1) g _ from ⟨hm.1, hm.2.1, (unhide HS).off (Or.inr ⟨h42, heq⟩), hm.2.2.2⟩)
                      clear hm h42 heq
                      go_wp2_with (fail)
                      go_round
                      case rel => exact ⟨k + 1, by omega, by go_num, g, unhide HP⟩
                      case measure => simp [intOf]; omega
              · obtain rfl : k = c.size := by omega
                clear hm
                go_wp2_with (first | (go_at_call 12; refine (close_any c hc w.heap.size _ _ _ (unhide HM).2.1).mono ?_; rintro e w3 ⟨rfl, f3, hr3, hcl3, hgr3⟩) | fail)
                have HH := hide (Head.next (unhide HNE) (unhide HN) (unhide HC0) hlt (by simp) (unhide HM) hr3 hcl3 hgr3)
                clear hr3 hcl3 hgr3
                go_round
                case rel => exact ⟨i + 1, _, _, _, _, rfl, rfl, by go_num, unhide HH⟩
                case measure => simp [intOf]; omega
      | false =>
        have HW := hide (show Wipe c w gA gB fA fB 0 _ from ⟨unhide HA, unhide HBr, unhide HL⟩)
        clear HA HBr HL
        go_wp2_with (fail)
        clear hcell
        go_loopw [10] (fun vk wr => ∃ k : Nat, k ≤ c.size + 1 ∧ vk = .int .i64 k ∧ Wipe c w gA gB fA fB k wr) (fun vk _ => c.size + 1 - (intOf vk).toNat)
        case atStart => exact ⟨0, Nat.zero_le _, rfl, unhide HW⟩
        case round =>
          obtain ⟨k, hk, rfl, hw⟩ := hrel
          clear HW
          by_cases hlk : k < c.size + 1
          · have hcl := hw.2.1.cell (j := k) (by omega)
            have hth := hw.2.1.thaw k
            have HW1 := hide (hw.next (unhide HNE))
            clear hw
            generalize (if k < k then false else fB k) = q1 at hcl
            go_wp2_with (fail)
            go_round
            case rel => exact ⟨k + 1, by omega, by go_num, unhide HW1⟩
            case measure => simp [intOf]; omega
          · obtain rfl : k = c.size + 1 := by omega
            have HM := hide (hw.done (byt t i))
            clear hw
            go_wp2_with (fail)
            go_loopw [12] (fun vk wr => ∃ k : Nat, k ≤ c.size ∧ vk = .int .i64 k ∧ ∃ g, Made c w (byt t i) gA gB fA k g wr) (fun vk _ => c.size - (intOf vk).toNat)
            case atStart => exact ⟨0, Nat.zero_le _, rfl, _, unhide HM⟩
            case round =>
              obtain ⟨k, hk, rfl, g, hm⟩ := hrel
              clear HM
              have HM := hide hm
              by_cases hlk : k < c.size
              · have hca := hm.1.cell (j := k) (by omega)
                have hst := hm.2.2.1
                have HS := hide hst
                clear hst
                generalize hf : fA k = q1 at hca
                have HF := hide hf
                clear hf
                cases q1 with
                | false =>
                  clear hm
                  go_wp2_with (fail)
                  go_round
                  case rel => exact ⟨k + 1, by omega, by go_num, g, (unhide HM).1, (unhide HM).2.1, (unhide HS).off (Or.inl (unhide HF)), (unhide HM).2.2.2⟩
                  case measure => simp [intOf]; omega
                | true =>
                  by_cases h42 : byt c k = 42
                  · have htst := byt_is hlk h42
                    have hcb := hm.2.1.cell (j := k) (by omega)
                    have hth := hm.2.1.thaw k
                    have HP := hide (hm.put (unhide HNE) k ((unhide HS).loops (unhide HF) h42 rfl))
                    clear hm h42
                    generalize g k = q2 at hcb
                    go_wp2_with (fail)
                    go_round
                    case rel => exact ⟨k + 1, by omega, by go_num, _, unhide HP⟩
                    case measure => simp [intOf]; omega
                  · have htst := byt_isnt hlk h42
                    by_cases heq : byt c k = byt t i
                    · have hd := byt_same hlk hlt heq
                      have hcb := hm.2.1.cell (j := k + 1) (by omega)
                      have hth := hm.2.1.thaw (k + 1)
                      have HP := hide (hm.put (unhide HNE) (k + 1) ((unhide HS).goes (unhide HF) h42 heq rfl))
                      clear hm h42 heq
                      generalize g (k + 1) = q2 at hcb
                      go_wp2_with (fail)
                      go_round
                      case rel => exact ⟨k + 1, by omega, by go_num, _, unhide HP⟩
                      case measure => simp [intOf]; omega
                    · have hd := byt_other hlk hlt heq
                      have HP := hide (show Made c w (byt t i) gA gB fA (k + 1) g _ from ⟨hm.1, hm.2.1, (unhide HS).off (Or.inr ⟨h42, heq⟩), hm.2.2.2⟩)
                      clear hm h42 heq
                      go_wp2_with (fail)
                      go_round
                      case rel => exact ⟨k + 1, by omega, by go_num, g, unhide HP⟩
                      case measure => simp [intOf]; omega
              · obtain rfl : k = c.size := by omega
                clear hm
                go_wp2_with (first | (go_at_call 12; refine (close_any c hc w.heap.size _ _ _ (unhide HM).2.1).mono ?_; rintro e w3 ⟨rfl, f3, hr3, hcl3, hgr3⟩) | fail)
                have HH := hide (Head.next (unhide HNE) (unhide HN) (unhide HC0) hlt (by simp) (unhide HM) hr3 hcl3 hgr3)
                clear hr3 hcl3 hgr3
                go_round
                case rel => exact ⟨i + 1, _, _, _, _, rfl, rfl, by go_num, unhide HH⟩
                case measure => simp [intOf]; omega
    · obtain rfl : i = t.size := by omega
      go_wp2_with (fail)
      go_ret
      exact ⟨⟨q, rfl, by rw [← unhide HQ]; exact ((unhide HN).last (unhide HC0)).symm⟩, unhide HL⟩

theorem glob_any (s t : ByteArray) (hs : s.size ≤ 4096) (ht : t.size ≤ 4096) (w : World) :
    Calls Try.prog 8 #[.string s, .string t] w fun e w' => Answers (Acc (anchOf s) (byt (coreOf s)) (byt t) (coreOf s).size t.size 0 0) e ∧ Below w.heap.size w w' := by
  have hc := core_size s
  cases hb : anchOf s with
  | false =>
    have hcs : coreOf s = s := by simp [coreOf, hb]
    rw [hcs]
    by_cases h0 : 0 < s.size
    · have hb1 : s.size - 1 < s.size := by omega
      refine glob_some s t hs ht w h0 hb1 ?_
      have := byt_test hb1 36
      simp [anchOf, h0] at hb
      rw [decide_eq_false hb] at this
      simpa using this
    · exact glob_none s t hs ht w h0
  | true =>
    have h0 : 0 < s.size := by simp [anchOf] at hb; exact hb.1
    have hb1 : s.size - 1 < s.size := by omega
    have hc1 : coreOf s = s.extract 0 (s.size - 1) := by simp [coreOf, hb]
    have hcs : (coreOf s).size = s.size - 1 := by rw [hc1, ByteArray.size_extract]; omega
    refine glob_anch s t (coreOf s) hs (by omega) ht w h0 hb1 ?_ hc1 hcs
    have := byt_test hb1 36
    simp [anchOf] at hb
    rw [hb.2] at this
    simpa using this

end Go.Proofs.Qxb6602370a
