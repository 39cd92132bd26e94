/- slices.DeleteFunc (58) with the method value site.gone. -/
import Derived.Test.Qxb6601448aDel
import Derived.Laws.IdiomCopy
namespace Go.Proofs.Qxb6601448a
open Go.RowKit
set_option linter.unusedVariables false

theorem below_cells {B b : Nat} (hb : B ≤ b) : ∀ (vs : List Value) (o : Nat) {a w : World}, Below B a w → Below B a (w.setCells b o vs)
  | [], _, _, _, h => h
  | v :: r, o, a, w, h => by
    rw [World.setCells]
    exact below_cells hb r (o + 1) (h.setCell (p := ⟨b, o, none⟩) hb v)

theorem Below.row {w w' : World} (h : Below w.heap.size w w') : w.grownBy w' none := ⟨h.os, h.tape, h.output, h.size, fun k hk _ => h.block k hk⟩

theorem ownsRow_none {w w' : World} {base : Nat} {e : TypeId} {size g n cap : Nat} {xs : List Value} (h : w.ownsRow base e size (.slice (some ⟨g, 0, none⟩) n cap) n xs) (hb : Below w.heap.size w w') : w'.ownsRow base e size (.slice (some ⟨g, 0, none⟩) n cap) n xs :=
  h.kept (Below.row hb) (Or.inr (by simp [Value.ownBlock]))

theorem strs_own {w : World} {base g cap : Nat} {ts : List ByteArray} (h : w.ownsRow base 9 1 (.slice (some ⟨g, 0, none⟩) ts.length cap) ts.length (ts.map Value.string)) (hb : ts.length * 16 ≤ 140737488351232) (hs : ∀ s ∈ ts, s.size ≤ maxLen) : StrsAt base w.heap.size w (.slice (some ⟨g, 0, none⟩) ts.length cap) ts := by
  have hg := ownsRow_lt h
  have h' : w.ownsRow base 9 1 (.slice (some ⟨g, 0, none⟩) (ts.map Value.string).length cap) (ts.map Value.string).length (ts.map Value.string) := by simpa using h
  have := RowAt.own (sz := 16) (lo := base) h' (by simpa using hb) hg.2
  exact ⟨by simpa using this, hs⟩

theorem filter_size {p : ByteArray → Bool} {ts : List ByteArray} (h : ∀ s ∈ ts, s.size ≤ maxLen) : ∀ s ∈ ts.filter p, s.size ≤ maxLen := fun s hs => h s (List.mem_filter.1 hs).1

theorem filter_all {p : ByteArray → Bool} {ts : List ByteArray} (h : ∀ j, j < ts.length → p (ts.getD j ByteArray.empty) = false) : ts.filter (fun s => !p s) = ts := by
  rw [List.filter_eq_self]
  intro s hs
  obtain ⟨j, hj, rfl⟩ := List.getElem_of_mem hs
  have := h j hj
  simp only [List.getD, List.getElem?_eq_getElem hj, Option.getD_some] at this
  simp [this]

/-- Behind the clearing: the first i cells are a slice of what is kept. -/
theorem strs_cut {w : World} {base g cap i : Nat} {ts ys : List ByteArray} (h : w.ownsRow base 9 1 (.slice (some ⟨g, 0, none⟩) ts.length cap) ts.length (ys.map Value.string)) (hb : ts.length * 16 ≤ 140737488351232) (hs : ∀ s ∈ ts, s.size ≤ maxLen)
    {p : ByteArray → Bool} (hk : Kept p ts ys i ts.length) (vs : List Value) : StrsAt base (w.setCells g i vs).heap.size (w.setCells g i vs) (.slice (some ⟨g, 0, none⟩) i cap) (ts.filter (fun s => !p s)) := by
  have hd := hk.done
  have hlt := ownsRow_lt h
  have hle : ts.length ≤ cap := by
    rcases h.2 with ⟨h', _⟩ | ⟨g', cap', cur, h', _, hg, hl, _⟩
    · cases h'
    · cases h'; exact hl
  have hij := hk.ij
  have hl := hk.len
  have hsz : (w.setCells g i vs).heap.size ≥ w.heap.size := (below_cells (B := 0) (Nat.zero_le _) vs i (Below.refl 0 w)).size
  have hlen : (ts.filter (fun s => !p s)).length = i := by rw [← hd, List.length_take]; omega
  refine ⟨⟨_, cap, by rw [List.length_map, hlen], by rw [List.length_map, hlen]; omega, by rw [List.length_map, hlen]; omega, ?_⟩, filter_size hs⟩
  by_cases hz : i = 0
  · refine Or.inr (Or.inl ⟨?_, _, rfl⟩)
    have : ts.filter (fun s => !p s) = [] := List.eq_nil_of_length_eq_zero (by omega)
    rw [this]; rfl
  · refine Or.inr (Or.inr ⟨g, 0, rfl, hlt.2, by omega, ?_, fun j hj => ?_⟩)
    · intro e
      have := congrArg List.length e
      rw [List.length_map, hlen] at this
      exact hz this
    · rw [List.length_map, hlen] at hj
      rw [Nat.zero_add, World.cell?_setCells_out g vs i w ⟨g, j, none⟩ (fun _ _ => Or.inl hj), h.cellAt j (by omega), ← hd]
      have h1 : j < ys.length := by omega
      simp [List.getD, h1, hj]

set_option maxHeartbeats 1000000 in
theorem deleteFunc_any (nm : ByteArray) (vp ve v : Value) (es ts : List ByteArray) (w : World) {lo hi base : Nat} (he : StrsAt lo hi w ve es) (hh : hi ≤ base) (hrow : w.ownsRow base 9 1 v ts.length (ts.map Value.string)) (hb : ts.length * 16 ≤ 140737488351232) (hs : ∀ s ∈ ts, s.size ≤ maxLen) (hbase : base ≤ w.heap.size) :
    Calls Try.prog 58 #[v, goneV nm vp ve] w fun e w' => ∃ v', e = .returned v' ∧ StrsAt base w'.heap.size w' v' (ts.filter (fun s => !memS es s)) ∧ Below base w w' := by
  rcases hrow.2 with ⟨rfl, hz⟩ | ⟨g, cap, cur, rfl, hbg, hgb, r1, r2, r3, r4⟩
  · have hts : ts = [] := List.eq_nil_of_length_eq_zero hz
    subst hts
    have hn : StrsAt lo hi w (.slice none 0 0) [] := ⟨⟨none, 0, rfl, Nat.le_refl _, by simp, Or.inl ⟨rfl, rfl, rfl⟩⟩, by simp⟩
    have HI := hide (indexFunc_any nm vp ve (.slice none 0 0) es [] w he (by omega) hn (by omega))
    clear hrow he hn
    go_enter Try.func58, Try.ntmps58
    go_wp2_with fail
    refine (unhide HI).mono ?_
    rintro e w' ⟨⟨r, rfl, hr⟩, hbl⟩
    obtain rfl : r = -1 := by
      rcases hr with ⟨h, _⟩ | ⟨k, hk, _⟩
      · exact h
      · simp at hk
    have HB := hide hbl
    clear hr hbl
    go_wp2
    go_ret
    exact ⟨_, rfl, ⟨⟨none, 0, rfl, Nat.le_refl _, by simp, Or.inl ⟨rfl, rfl, rfl⟩⟩, by simp⟩, (unhide HB).mono hbase⟩
  · have hlt := ownsRow_lt hrow
    have hst := strs_own hrow hb hs
    have HI := hide (indexFunc_any nm vp ve _ es ts w he (by omega) hst (Nat.le_refl _))
    have HR := hide hrow
    have HE := hide he
    have HS := hide hs
    have q23 : ∀ (w : World) (a : Option Addr) (n c n' c' : Nat), (binOp .eql 23 (.slice a n c) (.slice none n' c')).run Try.prog w = .ok (.bool a.isNone) w := fun w a n c n' c' => Lib.run_eql_slice_nil w _ _ a n c n' c' Try.underlying23
    clear hrow he hs hst hgb r2 r3 r4
    go_enter Try.func58, Try.ntmps58
    go_wp2_with fail
    refine (unhide HI).mono ?_
    rintro e w1 ⟨⟨r, rfl, hr⟩, hbl⟩
    have HR1 := hide (ownsRow_none (unhide HR) hbl)
    have HB := hide hbl
    rcases hr with ⟨rfl, hno⟩ | ⟨k, hk, rfl, hyes, hno⟩
    · have hf := filter_all hno
      have HF := hide hf
      clear hno hf hbl
      go_wp2
      go_ret
      refine ⟨_, rfl, ?_, (unhide HB).mono hbase⟩
      rw [unhide HF]
      exact strs_own (unhide HR1) hb (unhide HS)
    · have HK := hide (Kept.start hk hyes hno)
      have HL : Hid (Below base w w1) := hide (hbl.mono hbase)
      have hbs := hbl.size
      have hk1 : ((k : Int) == -1) = false := by simp only [beq_eq_false_iff_ne]; omega
      clear hyes hno hbl HI
      go_wp2
      go_loopw [5, 6] (fun vi vj wr => ∃ (i j : Nat) (ys : List ByteArray), vi = .int .i64 i ∧ vj = .int .i64 j ∧ Kept (memS es) ts ys i j ∧ wr.ownsRow base 9 1 (.slice (some ⟨g, 0, none⟩) ts.length cap) ts.length (ys.map Value.string) ∧ Below base w wr) (fun _ vj _ => ts.length - (intOf vj).toNat)
      case atStart => exact ⟨k, k + 1, ts, rfl, by go_num, unhide HK, unhide HR1, unhide HL⟩
      case round =>
        clear HK HR1 HL
        obtain ⟨i, j, ys, rfl, rfl, hkp, hrw, hbl⟩ := hrel
        have hij := hkp.ij
        have hjn := hkp.jn
        have hwl := hbl.size
        have hyl := hkp.len
        by_cases hlt2 : j < ts.length
        · have hcell : wr.cell? ⟨g, j, none⟩ = some (.string (ts.getD j ByteArray.empty)) := by
            rw [hrw.cellAt j (by omega), ← hkp.at hlt2]
            simp [List.getD, show j < ys.length by omega]
          have HT := hide (fun h => hkp.skip hlt2 h)
          have HF := hide (fun h => hkp.keep hlt2 h)
          generalize ts.getD j ByteArray.empty = s at hcell HT HF
          have hcall : Calls Try.prog 50 #[.agg #[.string nm, vp, ve], .string s] wr fun e w' => e = .returned (.bool (memS es s)) ∧ Below wr.heap.size wr w' := gone_any nm vp ve es s wr ((unhide HE).same (Same.below hbl hh)) (by omega)
          generalize memS es s = q at hcall HT HF
          have HCALL := hide hcall
          have HRW := hide hrw
          have HBL := hide hbl
          clear hcall hrw hbl hkp hyl
          cases q with
          | true =>
            go_wp2_with fail
            refine (unhide HCALL).mono ?_
            rintro e w2 ⟨rfl, b1⟩
            have HB1 := hide b1
            clear b1
            go_wp2
            go_roundw
            case rel => exact ⟨i, j + 1, ys, rfl, by go_num, unhide HT (by simp), ownsRow_none (unhide HRW) (unhide HB1), (unhide HBL).trans ((unhide HB1).mono (by omega))⟩
            case measure => simp [intOf]; omega
          | false =>
            go_wp2_with fail
            refine (unhide HCALL).mono ?_
            rintro e w2 ⟨rfl, b1⟩
            have hrw2 := ownsRow_none (unhide HRW) b1
            have hci := hrw2.cellAt i (by omega)
            have hyl : ys.length = ts.length := by
              have := (unhide HRW).1
              simpa using this
            obtain ⟨y, hy⟩ : ∃ y, (ys.map Value.string)[i]? = some (.string y) := by
              refine ⟨ys[i], ?_⟩
              simp [show i < ys.length by omega]
            rw [hy] at hci
            have hfz := hrw2.frozenAt i
            have hsto := hrw2.stored i (.string s)
            rw [show (ys.map Value.string).set i (.string s) = (ys.set i s).map Value.string by rw [List.map_set]] at hsto
            have HSTO := hide hsto
            have HB1 := hide b1
            have hb1s := b1.size
            clear b1 hrw2 hsto hy
            go_wp2
            go_roundw
            case rel =>
              exact ⟨i + 1, j + 1, ys.set i s, by go_num, by go_num, unhide HF (by simp), (unhide HSTO).1, ((unhide HBL).trans ((unhide HB1).mono (by omega))).setCell (p := ⟨g, i, none⟩) hbg _⟩
            case measure => simp [intOf]; omega
        · obtain rfl : j = ts.length := by omega
          have hclr : ∀ ty, (Builtin.clear_ #[23] ty #[.slice (some ⟨g, i, none⟩) (ts.length - i) (cap - i)]).run Try.prog wr = .ok (.tuple #[]) (wr.setCells g i (List.replicate (ts.length - i) (.string ByteArray.empty))) :=
            fun ty => Lib.run_clear_slice wr 23 9 ty _ Try.underlying23 Try.zeroValue9 rfl rfl g i _ _ (by omega) (fun x hx => by
              rw [hrw.cellAt (i + x) (by omega)]
              simp [show i + x < ys.length by omega]) (fun x hx => hrw.frozenAt (i + x))
          have HFIN := hide (And.intro (strs_cut hrw hb (unhide HS) hkp (List.replicate (ts.length - i) (.string ByteArray.empty))) (below_cells hbg (List.replicate (ts.length - i) (.string ByteArray.empty)) i hbl))
          generalize wr.setCells g i (List.replicate (ts.length - i) (.string ByteArray.empty)) = w9 at hclr HFIN
          clear hrw hbl hkp
          go_wp2
          go_ret
          exact ⟨_, rfl, unhide HFIN⟩
end Go.Proofs.Qxb6601448a
