import Derived.Test.Qxb6601448aJoin
namespace Go.Proofs.Qxb6601448a
open Go.RowKit
open Go.Maps (has IsMap)
set_option linter.unusedVariables false

set_option maxRecDepth 100000 in
set_option maxHeartbeats 4000000 in
theorem join_gt (ps : Nat) (r sr seq loc : Int) (m1 m2 : Option Nat) (nm : ByteArray) (vp ve : Value) (es : List ByteArray) (w : World) {lo hi lv hv n1 n2 : Nat} (E G : DataW Value) (X : World → Nat → Nat → DataW Value → DataW Value → Prop) (hsr : 0 ≤ sr) (hr : sr < r) (hps : ps < w.heap.size)
    (c0 : w.cell? ⟨ps, 0, none⟩ = some (.int .u64 sr))
    (HREC : Hid (∀ n, Calls Try.prog 49 #[.pointer (some ⟨ps, 0, none⟩), .int .u64 r, .agg #[.string nm, vp, ve], .int .u64 seq, .int .u64 loc] (((w.alloc (.cells #[.int .u64 r, .map m1, .map m2] 36)).alloc (.cells #[.string nm, vp, ve] 52)).drewN n) fun e W => e = .returned (.tuple #[]) ∧ ∃ mb fb n0 k0 D0 F0, Set0 W w.heap.size (w.heap.size + 1) ps mb fb m1 m2 nm vp ve es lo hi lv hv n1 n2 n0 k0 E G D0 F0 ∧ X W mb fb D0 F0)) :
    Calls Try.prog 22 #[.pointer (some ⟨ps, 0, none⟩), .agg #[.int .u64 r, .map m1, .map m2], .agg #[.string nm, vp, ve], .int .u64 seq, .int .u64 loc] w fun e w' => ∃ chg W mb fb D0 F0, e = .returned (.bool chg) ∧ JoinEnd es D0 E F0 G mb fb true W w' chg ∧ X W mb fb D0 F0 := by
  have hr0 : (r == 0) = false := by simp; omega
  have hrr : decide (r < sr) = false := by simp; omega
  have hrs : decide (sr < r) = true := by simp; omega
  go_enter Try.func22, Try.ntmps22
  go_wp2_with (first | (at_range; refine wpList_range_is (R := mkR) _ rfl _ 33 rfl 86 Try.underlying33 m1 lo hi n1 E rfl (unhide HQ0).l1.m1 ?_; intro w0 hrg0 hg0 hs0) | (go_at_call 49; refine (unhide HREC _).mono ?_; rintro e W ⟨rfl, mb, fb, n0, k0, D0, F0, hQ0, hX⟩; have HQ0 := hide hQ0; have HX := hide hX; have x1w := hQ0.x1; clear hQ0 hX) | go_quiet (fail))
  go_frame
  have HS0 := unhide HQ0
  clear HREC HQ0 x1w
  have HL1 := hide (LJ.start HS0.l1 true hrg0 hg0 hs0)
  have HS := hide HS0
  clear hrg0 hg0 hs0 HS0
  go_loopw [11] (fun vc wr => ∃ chg, vc = .bool chg ∧ LJ mkR W mb n0 n1 m1 es true D0 E chg wr) (fun _ wr => leftOver wr m1 W.heap.size)
  case atStart => exact ⟨true, rfl, unhide HL1⟩
  case round =>
    obtain ⟨chg, rfl, left, cnt, n, D, hrg, hown, hcnt, hj, hc, hgr, hsz⟩ := hrel
    clear HL1
    go_wp2_with (first | (at_next; refine next_marker _ rfl _ rfl m1 W.heap.size n1 E left cnt rfl hrg ?_ ?_) | fail)
    · intro hl0
      have S := unhide HS
      have hnb : ∀ {x : Addr} {v : Value}, W.cell? x = some v → x.block ≠ mb := fun h => map_ne_cells S.l1.own1 h
      have x2 := grown_at hgr S.x2 (hnb S.x2)
      have y0 := grown_at hgr S.y0 (hnb S.y0)
      have y1 := grown_at hgr S.y1 (hnb S.y1)
      have y2 := grown_at hgr S.y2 (hnb S.y2)
      have s2 := grown_at hgr S.s2 (hnb S.s2)
      have hl2 : LS fiR wr fb m2 ve es lo hi lv hv n2 k0 G F0 := S.l2.other hgr S.ne S.l1.mlo S.l1.vlo
      have hne := S.ne
      obtain ⟨wo, hwo⟩ : ∃ wo : World, wo = wr := ⟨_, rfl⟩
      rw [← hwo] at hrg hown hgr hsz x2 y0 y1 y2 s2 hl2 ⊢
      clear hwo
      have HL2 := hide hl2
      have HOWN1 := hide hown
      have HJ1 := hide hj
      have HC1 := hide hc
      have HGR1 := hide hgr
      have HL0 := hide hl0
      clear hrg hown hj hc hgr hl0 hl2 S hnb hcnt
      go_wp2_with (first | (at_range; refine wpList_range_is (R := fiR) _ rfl _ 34 rfl 22 Try.underlying34 m2 lo hi n2 G rfl (unhide HL2).m1 ?_; intro w5 hrg5 hg5 hs5) | fail)
      go_frame
      have HL5 := hide (LJ.start (unhide HL2) chg hrg5 hg5 hs5)
      clear hrg5 hg5 hs5
      go_loopw [11] (fun vc wr => ∃ chg2, vc = .bool chg2 ∧ LJ fiR wo fb k0 n2 m2 es chg F0 G chg2 wr) (fun _ wr => leftOver wr m2 wo.heap.size)
      case atStart => exact ⟨chg, rfl, unhide HL5⟩
      case round =>
        obtain ⟨chg2, rfl, left2, cnt2, k2, F, hrg, hown, hcnt, hj, hc, hgr, hsz2⟩ := hrel
        clear HL5
        go_wp2_with (first | (at_next; refine next_final _ rfl _ rfl m2 wo.heap.size n2 G left2 cnt2 rfl hrg ?_ ?_) | fail)
        · intro hl02
          have hend : JoinEnd es D0 E F0 G mb fb true W wr chg2 := ⟨n, D, k2, F, chg, left, left2, ownsMap_block (unhide HOWN1) (hgr.block mb (unhide HOWN1).lt (by simp; omega)), unhide HJ1, unhide HL0, unhide HC1, hown, hj, hl02, hc, wo, unhide HGR1, hgr⟩
          have HE := hide hend
          clear hrg hown hcnt hj hc hgr hsz2 hl02 hend
          go_wp2
          go_ret
          exact ⟨chg2, W, mb, fb, D0, F0, rfl, unhide HE, unhide HX⟩
        · intro s z w1 cnt1 hs hlk hat hrg1 hlt hg1 hs1 hen
          have hg2 := grown_new hgr hg1 (Nat.le_refl _)
          have hnb : ∀ {x : Addr} {v : Value}, wo.cell? x = some v → x.block ≠ fb := fun h => map_ne_cells (unhide HL2).own1 h
          have t2 := grown_at hg2 s2 (hnb s2)
          have u0 := grown_at hg2 y0 (hnb y0)
          have u1 := grown_at hg2 y1 (hnb y1)
          have u2 := grown_at hg2 y2 (hnb y2)
          have hps1 : ps < w1.heap.size := cell_lt t2
          have hb7 : w.heap.size + 1 < w1.heap.size := cell_lt u0
          have hb6 : w.heap.size < w1.heap.size := by omega
          have hmW := (unhide HL2).own1.lt
          have hown1 := ownsMap_block hown (hg1.block fb (by omega) (by simp; omega))
          have hm : MapIs fiR fb (fb + 1) w1 (some fb) k2 F := ⟨Nat.le_refl _, Nat.lt_succ_self _, hown1⟩
          have hmb1 : fb < w1.heap.size := by omega
          have hcnt0 := hrg.left_eq
          have hw1 : wo.heap.size < w1.heap.size := by omega
          have HRG := hide hrg1
          have HC0 := hide hcnt0
          have HOWN := hide hown1
          have HJ := hide hj
          have HCH := hide hc
          have HAT := hide hat
          have HG2 := hide hg2
          have HM := hide hm
          clear hat hrg hrg1 hj hc hcnt0 hown hown1 hg2 hg1 hm hnb hgr hs1 hsz2 x2 y0 y1 y2 s2
          cases hk : has F (key s) with
          | true =>
            go_wp2_with (first | (at_lookup; refine look_final _ rfl _ _ rfl (some fb) fb (fb + 1) k2 F rfl (unhide HM) s rfl hs ?_; intro z2 hat2) | fail)
            obtain ⟨hnext, hleft⟩ := LJ.skip (unhide HL2) (unhide HRG) (unhide HOWN) hcnt hlt (unhide HJ) (unhide HCH) hlk (Or.inl hk) (unhide HG2) hw1 (Below.refl w1.heap.size w1)
            exact ⟨⟨chg2, rfl, hnext⟩, by rw [hleft, unhide HC0]; exact hlt⟩
          | false =>
            have hgo : Calls Try.prog 50 #[.agg #[.string nm, vp, ve], .string s] w1 fun e w' => e = .returned (.bool (memS es s)) ∧ Below w1.heap.size w1 w' := gone_any nm vp ve es s _ ((unhide HL2).strs (unhide HG2)) (by have := (unhide HL2).vh; omega)
            have HGO := hide hgo
            have hgk := memS_key es s
            clear hgo
            cases hq : memS es s with
            | true =>
              rw [hq] at hgk HGO
              have hgk' := hgk.1 rfl
              clear hgk
              go_wp2_with (first | (at_lookup; refine look_final _ rfl _ _ rfl (some fb) fb (fb + 1) k2 F rfl (unhide HM) s rfl hs ?_; intro z2 hat2) | fail)
              refine (unhide HGO).mono ?_
              rintro e w3 ⟨rfl, b3⟩
              obtain ⟨hnext, hleft⟩ := LJ.skip (unhide HL2) (unhide HRG) (unhide HOWN) hcnt hlt (unhide HJ) (unhide HCH) hlk (Or.inr hgk') (unhide HG2) hw1 b3
              have HN := hide hnext
              have HLF := hide hleft
              clear hnext hleft b3
              go_wp2
              go_roundw
              case rel => exact ⟨chg2, rfl, unhide HN⟩
              case measure => rw [unhide HLF, unhide HC0]; exact hlt
            | false =>
              rw [hq] at hgk HGO
              have hgk' : ¬ goneK es (key s) := fun h => by have := hgk.2 h; cases this
              clear hgk
              go_wp2_with (first | (at_lookup; refine look_final _ rfl _ _ rfl (some fb) fb (fb + 1) k2 F rfl (unhide HM) s rfl hs ?_; intro z2 hat2) | fail)
              refine (unhide HGO).mono ?_
              rintro e w3 ⟨rfl, b3⟩
              have hown3 := ownsMap_block (unhide HOWN) (b3.block fb hmb1)
              have hbig := (unhide HL2).big1
              obtain ⟨w4, hrun, hown4, hg4⟩ := hown3.update law9 Try.underlying34 (by omega) (keyOf9 hs) (fiR_mk z)
              obtain ⟨hnext, hleft⟩ := LJ.put (c0 := chg) (unhide HL2) (unhide HRG) hcnt hlt (unhide HJ) hlk hk hgk' (unhide HAT) (unhide HG2) hw1 b3 hown4 hg4
              have t23 := (b3.cell (p := ⟨ps, 2, none⟩) hps1).trans t2
              have HN := hide hnext
              have HLF := hide hleft
              clear hnext hleft b3 hown3 hbig hown4 hg4 t2 u0 u1 u2
              go_wp2
              go_roundw
              case rel => exact ⟨true, rfl, unhide HN⟩
              case measure => rw [unhide HLF, unhide HC0]; exact hlt
    · intro s z pa pn pc w1 cnt1 hs hlk hat hrg1 hlt hg1 hs1 hen
      have hg2 := grown_new hgr hg1 (Nat.le_refl _)
      have S := unhide HS
      have hnb : ∀ {x : Addr} {v : Value}, W.cell? x = some v → x.block ≠ mb := fun h => map_ne_cells S.l1.own1 h
      have s1 := grown_at hg2 S.s1 (hnb S.s1)
      have y0 := grown_at hg2 S.y0 (hnb S.y0)
      have y1 := grown_at hg2 S.y1 (hnb S.y1)
      have y2 := grown_at hg2 S.y2 (hnb S.y2)
      have hps1 : ps < w1.heap.size := cell_lt s1
      have hb7 : w.heap.size + 1 < w1.heap.size := cell_lt y0
      have hb6 : w.heap.size < w1.heap.size := by omega
      have hmW := S.l1.own1.lt
      have hown1 := ownsMap_block hown (hg1.block mb (by omega) (by simp; omega))
      have hm : MapIs mkR mb (mb + 1) w1 (some mb) n D := ⟨Nat.le_refl _, Nat.lt_succ_self _, hown1⟩
      have hmb1 : mb < w1.heap.size := by omega
      have hcnt0 := hrg.left_eq
      have hw1 : W.heap.size < w1.heap.size := by omega
      have HRG := hide hrg1
      have HC0 := hide hcnt0
      have HOWN := hide hown1
      have HJ := hide hj
      have HCH := hide hc
      have HAT := hide hat
      have HG2 := hide hg2
      have HM := hide hm
      have HLS := hide S.l1
      clear hat hrg hrg1 hj hc hcnt0 hown hown1 hg2 hg1 hm S hnb hgr hs1 hsz
      cases hk : has D (key s) with
      | true =>
        go_wp2_with (first | (at_lookup; refine look_marker _ rfl _ _ rfl (some mb) mb (mb + 1) n D rfl ((unhide HM).same (Same.alloc (Same.refl _ _ _) _ (by omega))) s rfl hs ?_; intro z2 pa2 pn2 pc2 hat2) | fail)
        obtain ⟨hnext, hleft⟩ := LJ.skip (unhide HLS) (unhide HRG) (unhide HOWN) hcnt hlt (unhide HJ) (unhide HCH) hlk (Or.inl hk) (unhide HG2) hw1 (((Below.refl w1.heap.size w1).alloc (Nat.le_refl _) (.cells #[.int .u64 z, .slice pa pn pc] 86)).alloc (by simp) (.cells #[.int .u64 z2, .slice pa2 pn2 pc2] 86))
        exact ⟨⟨chg, rfl, hnext⟩, by rw [hleft, unhide HC0]; exact hlt⟩
      | false =>
        have hgo : ∀ o1 o2, Calls Try.prog 50 #[.agg #[.string nm, vp, ve], .string s] ((w1.alloc o1).alloc o2) fun e w' => e = .returned (.bool (memS es s)) ∧ Below ((w1.alloc o1).alloc o2).heap.size ((w1.alloc o1).alloc o2) w' := fun o1 o2 =>
          gone_any nm vp ve es s _ (((unhide HLS).strs (unhide HG2)).same (((Same.refl lv hv w1).alloc o1 (by have := (unhide HLS).vh; omega)).alloc o2 (by have := (unhide HLS).vh; simp; omega))) (by have := (unhide HLS).vh; simp; omega)
        have HGO := hide hgo
        have hgk := memS_key es s
        clear hgo
        cases hq : memS es s with
        | true =>
          rw [hq] at hgk HGO
          have hgk' := hgk.1 rfl
          clear hgk
          go_wp2_with (first | (at_lookup; refine look_marker _ rfl _ _ rfl (some mb) mb (mb + 1) n D rfl ((unhide HM).same (Same.alloc (Same.refl _ _ _) _ (by omega))) s rfl hs ?_; intro z2 pa2 pn2 pc2 hat2) | fail)
          refine (unhide HGO _ _).mono ?_
          rintro e w3 ⟨rfl, b3⟩
          obtain ⟨hnext, hleft⟩ := LJ.skip (unhide HLS) (unhide HRG) (unhide HOWN) hcnt hlt (unhide HJ) (unhide HCH) hlk (Or.inr hgk') (unhide HG2) hw1 ((((Below.refl w1.heap.size w1).alloc (Nat.le_refl _) _).alloc (by simp) _).trans (b3.mono (by simp; omega)))
          have HN := hide hnext
          have HLF := hide hleft
          clear hnext hleft b3
          go_wp2
          go_roundw
          case rel => exact ⟨chg, rfl, unhide HN⟩
          case measure => rw [unhide HLF, unhide HC0]; exact hlt
        | false =>
          rw [hq] at hgk HGO
          have hgk' : ¬ goneK es (key s) := fun h => by have := hgk.2 h; cases this
          clear hgk
          go_wp2_with (first | (at_lookup; refine look_marker _ rfl _ _ rfl (some mb) mb (mb + 1) n D rfl ((unhide HM).same (Same.alloc (Same.refl _ _ _) _ (by omega))) s rfl hs ?_; intro z2 pa2 pn2 pc2 hat2) | fail)
          refine (unhide HGO _ _).mono ?_
          rintro e w3 ⟨rfl, b3⟩
          have hb3 := (((Below.refl w1.heap.size w1).alloc (Nat.le_refl _) (.cells #[.int .u64 z, .slice pa pn pc] 86)).alloc (by simp) (.cells #[.int .u64 z2, .slice pa2 pn2 pc2] 86)).trans (b3.mono (by simp; omega))
          have hown3 := ownsMap_block (unhide HOWN) (hb3.block mb hmb1)
          have hbig := (unhide HLS).big1
          obtain ⟨w4, hrun, hown4, hg4⟩ := hown3.drew.update law9 Try.underlying33 (by omega) (keyOf9 hs) (mkR_mk z pa pn pc)
          obtain ⟨hnext, hleft⟩ := LJ.put (c0 := true) (unhide HLS) (unhide HRG) hcnt hlt (unhide HJ) hlk hk hgk' (unhide HAT) (unhide HG2) hw1 hb3.drew hown4 hg4
          have s13 := (hb3.cell (p := ⟨ps, 1, none⟩) hps1).trans s1
          have x0 : w3.cell? ⟨w1.heap.size, 0, none⟩ = some (.int .u64 z) := (b3.cell (by simp; omega)).trans (cell_alloc _ (cell_pair0 _ _ _ _))
          have x1 : w3.cell? ⟨w1.heap.size, 1, none⟩ = some (.slice pa pn pc) := (b3.cell (by simp; omega)).trans (cell_alloc _ (cell_pair1 _ _ _ _))
          have hS4 : w4.cell? ⟨ps, 1, none⟩ = some (.map (some mb)) ∧ w4.cell? ⟨w1.heap.size, 0, none⟩ = some (.int .u64 z) ∧ w4.cell? ⟨w1.heap.size, 1, none⟩ = some (.slice pa pn pc) := ⟨grown_at hg4 (a := w3.drew) s13 (map_ne_cells hown3 s13), grown_at hg4 (a := w3.drew) x0 (by simp; omega), grown_at hg4 (a := w3.drew) x1 (by simp; omega)⟩
          have HN := hide hnext
          have HLF := hide hleft
          clear hnext hleft b3 hb3 hown3 hbig hown4 hg4 s1 y0 y1 y2
          go_wp2_with fail
          go_region_held3 (fun w' => w'.cell? ⟨ps, 1, none⟩ = some (.map (some mb)) ∧ w'.cell? ⟨w1.heap.size, 0, none⟩ = some (.int .u64 z) ∧ w'.cell? ⟨w1.heap.size, 1, none⟩ = some (.slice pa pn pc)) (first | with_reducible assumption | exact ⟨s13, x0, x1⟩ | go_keep) (first | (go_at_call 50; skip))
          go_wp2
          go_roundw
          case rel => exact ⟨true, rfl, unhide HN⟩
          case measure => rw [unhide HLF, unhide HC0]; exact hlt

set_option maxRecDepth 100000 in
set_option maxHeartbeats 1000000 in
theorem join_no (ps : Nat) (r sr seq loc : Int) (m1 m2 : Option Nat) (nm : ByteArray) (vp ve : Value) (w : World) (hr : r = 0 ∨ r < sr) (hps : ps < w.heap.size) (c0 : w.cell? ⟨ps, 0, none⟩ = some (.int .u64 sr)) :
    Calls Try.prog 22 #[.pointer (some ⟨ps, 0, none⟩), .agg #[.int .u64 r, .map m1, .map m2], .agg #[.string nm, vp, ve], .int .u64 seq, .int .u64 loc] w fun e w' => e = .returned (.bool false) ∧ Below w.heap.size w w' := by
  have hB : ∀ n, Below w.heap.size w (((w.alloc (.cells #[.int .u64 r, .map m1, .map m2] 36)).alloc (.cells #[.string nm, vp, ve] 52)).drewN n) := fun n => ⟨rfl, rfl, rfl, by simp; omega, (((Below.refl _ w).alloc (Nat.le_refl _) _).alloc (by simp) _).block⟩
  have HB := hide hB
  clear hB
  by_cases h0 : r = 0
  · subst h0
    go_enter Try.func22, Try.ntmps22
    go_wp2_with (go_quiet (fail))
    go_ret
    exact ⟨rfl, unhide HB _⟩
  · have hr0 : (r == 0) = false := by simp; omega
    have hrr : decide (r < sr) = true := by simp; omega
    clear h0 hr
    go_enter Try.func22, Try.ntmps22
    go_wp2_with (go_quiet (fail))
    go_ret
    exact ⟨rfl, unhide HB _⟩

end Go.Proofs.Qxb6601448a
