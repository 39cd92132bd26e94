/- The law FnJoinAgreesWithCovers, walked. -/
import Derived.Test.Qxb6601448aPack
namespace Go.Proofs.Qxb6601448a
open Go.RowKit
open Go.Maps (has IsMap)
set_option linter.unusedVariables false

theorem siteFit_at (nm : ByteArray) (vp ve : Value) (pl es : List ByteArray) (w : World) {lo hi : Nat} (hp : StrsAt lo hi w vp pl) (he : StrsAt lo hi w ve es) {fit : Bool} (hf : Hid (decide (pl.length ≤ 4096 ∧ es.length ≤ 4096) = fit)) :
    Calls Try.prog 18 #[.agg #[.string nm, vp, ve]] w fun e w' => e = .returned (.bool fit) ∧ Below w.heap.size w w' := by
  obtain ⟨x1, p1, rfl⟩ := hp.shape
  obtain ⟨x2, p2, rfl⟩ := he.shape
  have := siteCountsFit_any nm x1 x2 pl.length p1 es.length p2 w
  rwa [hf.out] at this
theorem StrsAt.len {lo hi : Nat} {w : World} {v : Value} {ss : List ByteArray} (h : StrsAt lo hi w v ss) : ss.length * 16 ≤ 140737488351232 := by
  obtain ⟨⟨ao, cap, _, _, h2, _⟩, _⟩ := h
  simpa using h2
theorem at_world {f : FuncId} {args : Array Value} {W W' : World} {post : Ending → World → Prop} (h : W = W') (k : Calls Try.prog f args W post) : Calls Try.prog f args W' post := h ▸ k
theorem anyIn_at (v u : Value) (ss ts : List ByteArray) (w : World) {lo hi : Nat} (h : StrsAt lo hi w v ss) (g : StrsAt lo hi w u ts) {q : Bool} (hf : Hid (ss.any (memS ts) = q)) : Calls Try.prog 38 #[v, u] w fun e w' => e = .returned (.bool q) ∧ w' = w := by
  have := anyIn_any v u ss ts w h g
  rwa [hf.out] at this

set_option maxRecDepth 100000 in
set_option maxHeartbeats 4000000 in
theorem joinAgrees_walk (r s sv : Int) (sn nm : ByteArray) (a1 a2 a3 a4 a5 b1 b2 b3 b4 b5 vp ve : Value) (q1 q2 : Int) (na nb : News) (pl es : List ByteArray) (w : World) {lo hi : Nat} (ha : NewsAt lo hi w a1 a2 a3 a4 a5 na) (hb : NewsAt lo hi w b1 b2 b3 b4 b5 nb) (hp : StrsAt lo hi w vp pl) (he : StrsAt lo hi w ve es) (hsn : sn.size ≤ 140737488351232) (hnm : nm.size ≤ 140737488351232) (hh : hi ≤ w.heap.size) (hr : 0 ≤ r) (hs : 0 ≤ s) :
    Calls Try.prog 6 #[Value.agg #[.int .u64 r, a1, a2, a3, a4, a5, .string sn, .int .u64 sv], .agg #[.int .u64 s, b1, b2, b3, b4, b5], .agg #[.string nm, vp, ve], .int .u64 q1, .int .u64 q2] w fun e w' => e = .returned (.bool true) ∧ Below w.heap.size w w' := by
  have T0 := Trio.start w r s sv sn nm a1 a2 a3 a4 a5 b1 b2 b3 b4 b5 vp ve
  have kz : Calls Try.prog 37 _ _ _ := zz37 r s sv q1 q2 sn nm a1 a2 a3 a4 a5 b1 b2 b3 b4 b5 vp ve na nb pl es _ (ha.same (T0.same hh)) (hb.same (T0.same hh)) (hp.same (T0.same hh)) (he.same (T0.same hh)) hsn hnm (by have := T0.size; omega)
  have KZ := hide kz
  have HT0 := hide T0
  have hsn' : sn.size ≤ maxLen := by unfold maxLen; omega
  have hnm' : nm.size ≤ maxLen := by unfold maxLen; omega
  clear kz T0
  go_enter Try.func6, Try.ntmps6
  go_wp2_with fail
  refine (unhide KZ).mono ?_
  rintro e w4 ⟨⟨b, rfl⟩, hb4⟩
  have T4 := (unhide HT0).step hb4
  clear KZ HT0 hb4
  cases b with
  | false =>
    go_wp2
    go_ret
    exact ⟨rfl, T4.below⟩
  | true =>
    have C4 : TrioC w r s sv sn nm a1 a2 a3 a4 a5 b1 b2 b3 b4 b5 vp ve w4.drew := (T4.step (Below.refl _ _).drew).c
    have kA : ∀ w1, TrioC w r s sv sn nm a1 a2 a3 a4 a5 b1 b2 b3 b4 b5 vp ve w1 → Calls Try.prog 16 #[.agg #[.int .u64 r, a1, a2, a3, a4, a5, .string sn, .int .u64 sv]] w1 fun e w' => (∃ z, e = .returned (.int .i64 z)) ∧ Below w1.heap.size w1 w' := fun w1 hS => bytesOfSnap_any r sv sn a1 a2 a3 a4 a5 na w1 hsn' (ha.same (Same.below hS.src.1 hh)) (by have := hS.src.2; omega)
    have kB : ∀ w1, TrioC w r s sv sn nm a1 a2 a3 a4 a5 b1 b2 b3 b4 b5 vp ve w1 → Calls Try.prog 10 #[.agg #[.int .u64 s, b1, b2, b3, b4, b5]] w1 fun e w' => (∃ z, e = .returned (.int .i64 z)) ∧ Below w1.heap.size w1 w' := fun w1 hS => bytesOfNews_any s b1 b2 b3 b4 b5 nb w1 (hb.same (Same.below hS.src.1 hh)) (by have := hS.src.2; omega)
    have kC : ∀ w1, TrioC w r s sv sn nm a1 a2 a3 a4 a5 b1 b2 b3 b4 b5 vp ve w1 → Calls Try.prog 17 #[.agg #[.string nm, vp, ve]] w1 fun e w' => (∃ z, e = .returned (.int .i64 z)) ∧ Below w1.heap.size w1 w' := fun w1 hS => bytesOfSite_any nm vp ve pl es w1 hnm' (hp.same (Same.below hS.src.1 hh)) (he.same (Same.below hS.src.1 hh)) (by have := hS.src.2; omega)
    have KA := hide kA
    have KB := hide kB
    have KC := hide kC
    have C4' := hide C4
    have HT4 := hide T4
    clear kA kB kC C4 T4
    go_wp2_with fail
    go_region_held3 (fun w' => w'.cell? ⟨w.heap.size, 0, none⟩ = some (.int .u64 r) ∧ w'.cell? ⟨w.heap.size, 1, none⟩ = some a1 ∧ w'.cell? ⟨w.heap.size, 2, none⟩ = some a2 ∧ w'.cell? ⟨w.heap.size, 3, none⟩ = some a3 ∧ w'.cell? ⟨w.heap.size, 4, none⟩ = some a4 ∧ w'.cell? ⟨w.heap.size, 5, none⟩ = some a5 ∧ w'.cell? ⟨w.heap.size, 6, none⟩ = some (.string sn) ∧ w'.cell? ⟨w.heap.size, 7, none⟩ = some (.int .u64 sv) ∧ w'.cell? ⟨w.heap.size + 1, 0, none⟩ = some (.int .u64 s) ∧ w'.cell? ⟨w.heap.size + 1, 1, none⟩ = some b1 ∧ w'.cell? ⟨w.heap.size + 1, 2, none⟩ = some b2 ∧ w'.cell? ⟨w.heap.size + 1, 3, none⟩ = some b3 ∧ w'.cell? ⟨w.heap.size + 1, 4, none⟩ = some b4 ∧ w'.cell? ⟨w.heap.size + 1, 5, none⟩ = some b5 ∧ w'.cell? ⟨w.heap.size + 2, 0, none⟩ = some (.string nm) ∧ w'.cell? ⟨w.heap.size + 2, 1, none⟩ = some vp ∧ w'.cell? ⟨w.heap.size + 2, 2, none⟩ = some ve ∧ w.heap.size + 3 ≤ w'.heap.size ∧ Below w.heap.size w w') (first | with_reducible exact unhide C4' | with_reducible exact TrioC.step (by assumption) (by assumption) | assumption) (first | (go_at_call 9; refine (addB_any _ _ _).mono ?_; rintro e w' ⟨⟨z, rfl⟩, hwz⟩; obtain rfl := hwz.symm) | (go_at_call 16; refine (unhide KA _ ?_).mono ?_; assumption; rintro e w5 ⟨⟨z5, rfl⟩, bA⟩) | (go_at_call 10; refine (unhide KB _ ?_).mono ?_; assumption; rintro e w6 ⟨⟨z6, rfl⟩, bB⟩) | (go_at_call 17; refine (unhide KC _ ?_).mono ?_; assumption; rintro e w7 ⟨⟨z7, rfl⟩, bC⟩))
    have T7 := ((((unhide HT4).step (Below.refl _ _).drew).step bA).step bB).step bC
    clear KA KB KC C4' HT4 bA bB bC
    go_wp2_with fail
    · go_ret
      exact ⟨rfl, T7.below⟩
    obtain ⟨x0, x1, x2, x3, x4, x5, x6, x7, y0, y1, y2, y3, y4, y5, z0, z1, z2, _, _⟩ := T7.c
    cases hfa : decide (na.mn.length ≤ 4096 ∧ na.fn.length ≤ 4096) with
    | false =>
      have HF := hide hfa
      clear hfa
      refine (countsFit_at r a1 a2 a3 a4 a5 na _ (ha.same (T7.same hh)) HF).mono ?_
      rintro e w8 ⟨rfl, b8⟩
      go_wp2
      go_ret
      exact ⟨rfl, (T7.step b8).below⟩
    | true =>
    have HFA := hide hfa
    clear hfa
    refine (countsFit_at r a1 a2 a3 a4 a5 na _ (ha.same (T7.same hh)) HFA).mono ?_
    rintro e w8 ⟨rfl, b8⟩
    have T8 := T7.step b8
    clear T7 b8 x0 x1 x2 x3 x4 x5 x6 x7 y0 y1 y2 y3 y4 y5 z0 z1 z2
    obtain ⟨x0, x1, x2, x3, x4, x5, x6, x7, y0, y1, y2, y3, y4, y5, z0, z1, z2, _, _⟩ := T8.c
    cases hfb : decide (nb.mn.length ≤ 4096 ∧ nb.fn.length ≤ 4096) with
    | false =>
      have HF := hide hfb
      clear hfb
      go_wp2_with fail
      refine (countsFit_at s b1 b2 b3 b4 b5 nb _ (hb.same (T8.same hh)) HF).mono ?_
      rintro e w9 ⟨rfl, b9⟩
      go_wp2
      go_ret
      exact ⟨rfl, (T8.step b9).below⟩
    | true =>
    have HFB := hide hfb
    clear hfb
    go_wp2_with fail
    refine (countsFit_at s b1 b2 b3 b4 b5 nb _ (hb.same (T8.same hh)) HFB).mono ?_
    rintro e w9 ⟨rfl, b9⟩
    have T9 := T8.step b9
    clear T8 b9 x0 x1 x2 x3 x4 x5 x6 x7 y0 y1 y2 y3 y4 y5 z0 z1 z2
    obtain ⟨x0, x1, x2, x3, x4, x5, x6, x7, y0, y1, y2, y3, y4, y5, z0, z1, z2, _, _⟩ := T9.c
    cases hfc : decide (pl.length ≤ 4096 ∧ es.length ≤ 4096) with
    | false =>
      have HF := hide hfc
      clear hfc
      go_wp2_with fail
      refine (siteFit_at nm vp ve pl es _ (hp.same (T9.same hh)) (he.same (T9.same hh)) HF).mono ?_
      rintro e w10 ⟨rfl, b10⟩
      go_wp2
      go_ret
      exact ⟨rfl, (T9.step b10).below⟩
    | true =>
    have HFC := hide hfc
    clear hfc
    go_wp2_with fail
    refine (siteFit_at nm vp ve pl es _ (hp.same (T9.same hh)) (he.same (T9.same hh)) HFC).mono ?_
    rintro e w10 ⟨rfl, b10⟩
    have T10 := T9.step b10
    clear T9 b10 x0 x1 x2 x3 x4 x5 x6 x7 y0 y1 y2 y3 y4 y5 z0 z1 z2
    obtain ⟨x0, x1, x2, x3, x4, x5, x6, x7, y0, y1, y2, y3, y4, y5, z0, z1, z2, _, _⟩ := T10.c
    by_cases hs0 : s = 0
    · subst hs0
      go_wp2
      go_ret
      exact ⟨rfl, T10.below⟩
    have hs1 : (s == 0) = false := by simpa using hs0
    cases hg1 : nb.mn.any (memS es) with
    | true =>
      have HG := hide hg1
      clear hg1
      go_wp2_with fail
      refine (anyIn_at b1 ve nb.mn es _ (hb.1.same (T10.same hh)) (he.same (T10.same hh)) HG).mono ?_
      rintro e w11 ⟨rfl, rfl⟩
      go_wp2
      go_ret
      exact ⟨rfl, T10.below⟩
    | false =>
    have HG1 := hide hg1
    clear hg1
    go_wp2_with fail
    refine (anyIn_at b1 ve nb.mn es _ (hb.1.same (T10.same hh)) (he.same (T10.same hh)) HG1).mono ?_
    rintro e w11 ⟨rfl, hw11⟩
    obtain rfl := hw11.symm
    cases hg2 : nb.fn.any (memS es) with
    | true =>
      have HG := hide hg2
      clear hg2
      go_wp2_with fail
      refine (anyIn_at b4 ve nb.fn es _ (hb.2.2.2.1.same (T10.same hh)) (he.same (T10.same hh)) HG).mono ?_
      rintro e w12 ⟨rfl, rfl⟩
      go_wp2
      go_ret
      exact ⟨rfl, T10.below⟩
    | false =>
    have HG2 := hide hg2
    clear hg2
    go_wp2_with fail
    refine (anyIn_at b4 ve nb.fn es _ (hb.2.2.2.1.same (T10.same hh)) (he.same (T10.same hh)) HG2).mono ?_
    rintro e w12 ⟨rfl, hw12⟩
    obtain rfl := hw12.symm
    go_wp2_with fail
    refine (copySnap_sh r sv sn a1 a2 a3 a4 a5 na _ (ha.same (T10.same hh)) (by have := T10.size; omega)).mono ?_
    rintro e w11 ⟨u1, p1, u2, p2, u3, p3, u4, p4, u5, p5, rfl, hA, b11⟩
    have T11 := T10.step b11
    have q10 := T10.size
    have q11 := b11.size
    clear x0 x1 x2 x3 x4 x5 x6 x7 y0 y1 y2 y3 y4 y5 z0 z1 z2
    obtain ⟨x0, x1, x2, x3, x4, x5, x6, x7, y0, y1, y2, y3, y4, y5, z0, z1, z2, _, _⟩ := T11.c
    have f0 := T11.x.free 0
    have f1 := T11.x.free 1
    have f2 := T11.x.free 2
    have f3 := T11.x.free 3
    have f4 := T11.x.free 4
    have f5 := T11.x.free 5
    have f6 := T11.x.free 6
    have f7 := T11.x.free 7
    have HT := hide (T11.setx (.slice u1 na.mn.length p1) (.slice u2 na.ms.length p2) (.slice u3 na.mp.length p3) (.slice u4 na.fn.length p4) (.slice u5 na.fv.length p5))
    have HA := hide ((hA.mono (lo' := w.heap.size + 3) (hi' := w11.heap.size) q10 (Nat.le_refl _)).same (eight_range (Same.refl _ _ _) (b := w.heap.size) (Or.inl (by omega)) (.int .u64 r) (.slice u1 na.mn.length p1) (.slice u2 na.ms.length p2) (.slice u3 na.mp.length p3) (.slice u4 na.fn.length p4) (.slice u5 na.fv.length p5) (.string sn) (.int .u64 sv)))
    clear T10 T11 hA b11 q11 q10 HFA HFB HFC
    go_wp2_with fail
    refine (copyNews_sh s b1 b2 b3 b4 b5 nb _ (hb.same ((unhide HT).same hh)) (by have := (unhide HT).size; omega)).mono ?_
    rintro e w12 ⟨v1, g1, v2, g2, v3, g3, v4, g4, v5, g5, rfl, hB, b12⟩
    have q11 := (unhide HT).size
    have T12 := (unhide HT).step b12
    have z12 := b12.size
    rw [eight_size] at z12 q11
    have hA12 := ((unhide HA).same (Same.below b12 (by rw [eight_size]; exact Nat.le_refl _))).mono (lo' := w.heap.size + 3) (hi' := w12.heap.size) (Nat.le_refl _) z12
    have hB12 := hB.mono (lo' := w.heap.size + 3) (hi' := w12.heap.size) (by rw [eight_size]; exact q11) (Nat.le_refl _)
    clear x0 x1 x2 x3 x4 x5 x6 x7 y0 y1 y2 y3 y4 y5 z0 z1 z2 f0 f1 f2 f3 f4 f5 f6 f7
    obtain ⟨x0, x1, x2, x3, x4, x5, x6, x7, y0, y1, y2, y3, y4, y5, z0, z1, z2, _, _⟩ := T12.c
    have f0 := T12.y.free 0
    have f1 := T12.y.free 1
    have f2 := T12.y.free 2
    have f3 := T12.y.free 3
    have f4 := T12.y.free 4
    have f5 := T12.y.free 5
    have HT2 := hide (T12.sety (.slice v1 nb.mn.length g1) (.slice v2 nb.ms.length g2) (.slice v3 nb.mp.length g3) (.slice v4 nb.fn.length g4) (.slice v5 nb.fv.length g5))
    have HA2 := hide (hA12.same (six_range (Same.refl _ _ _) (b := w.heap.size + 1) (Or.inl (by omega)) (.int .u64 s) (.slice v1 nb.mn.length g1) (.slice v2 nb.ms.length g2) (.slice v3 nb.mp.length g3) (.slice v4 nb.fn.length g4) (.slice v5 nb.fv.length g5)))
    have HB2 := hide (hB12.same (six_range (Same.refl _ _ _) (b := w.heap.size + 1) (Or.inl (by omega)) (.int .u64 s) (.slice v1 nb.mn.length g1) (.slice v2 nb.ms.length g2) (.slice v3 nb.mp.length g3) (.slice v4 nb.fn.length g4) (.slice v5 nb.fv.length g5)))
    clear HT HA T12 hA12 hB hB12 b12 z12 q11
    go_wp2_with fail
    refine (copySite_sh nm vp ve pl es _ (hp.same ((unhide HT2).same hh)) (he.same ((unhide HT2).same hh)) (by have := (unhide HT2).size; omega)).mono ?_
    rintro e w13 ⟨k1, h1, k2, h2, rfl, hP, hE, b13⟩
    have q12 := (unhide HT2).size
    have T13 := (unhide HT2).step b13
    have z13 := b13.size
    rw [six_size] at z13 q12
    have hA13 := ((unhide HA2).same (Same.below b13 (by rw [six_size]; exact Nat.le_refl _))).mono (lo' := w.heap.size + 3) (hi' := w13.heap.size) (Nat.le_refl _) z13
    have hB13 := ((unhide HB2).same (Same.below b13 (by rw [six_size]; exact Nat.le_refl _))).mono (lo' := w.heap.size + 3) (hi' := w13.heap.size) (Nat.le_refl _) z13
    have hP13 := hP.mono (lo' := w.heap.size + 3) (hi' := w13.heap.size) (by rw [six_size]; exact q12) (Nat.le_refl _)
    have hE13 := hE.mono (lo' := w.heap.size + 3) (hi' := w13.heap.size) (by rw [six_size]; exact q12) (Nat.le_refl _)
    clear x0 x1 x2 x3 x4 x5 x6 x7 y0 y1 y2 y3 y4 y5 z0 z1 z2 f0 f1 f2 f3 f4 f5
    obtain ⟨x0, x1, x2, x3, x4, x5, x6, x7, y0, y1, y2, y3, y4, y5, z0, z1, z2, _, _⟩ := T13.c
    have f0 := T13.z.free 0
    have f1 := T13.z.free 1
    have f2 := T13.z.free 2
    have hcol : ∃ W0, W0 = three w13 (w.heap.size + 2) (.string nm) (.slice k1 pl.length h1) (.slice k2 es.length h2) := ⟨_, rfl⟩
    obtain ⟨W0, hW0⟩ := hcol
    have HT3 := T13.setz (.slice k1 pl.length h1) (.slice k2 es.length h2)
    have HA3 := hA13.same (three_range (Same.refl _ _ _) (b := w.heap.size + 2) (Or.inl (by omega)) (.string nm) (.slice k1 pl.length h1) (.slice k2 es.length h2))
    have HB3 := hB13.same (three_range (Same.refl _ _ _) (b := w.heap.size + 2) (Or.inl (by omega)) (.string nm) (.slice k1 pl.length h1) (.slice k2 es.length h2))
    have HP3 := hP13.same (three_range (Same.refl _ _ _) (b := w.heap.size + 2) (Or.inl (by omega)) (.string nm) (.slice k1 pl.length h1) (.slice k2 es.length h2))
    have HE3 := hE13.same (three_range (Same.refl _ _ _) (b := w.heap.size + 2) (Or.inl (by omega)) (.string nm) (.slice k1 pl.length h1) (.slice k2 es.length h2))
    have hsz0 : W0.heap.size = w13.heap.size := by rw [hW0]; exact three_size _ _ _ _ _
    rw [← hW0, ← hsz0] at HA3 HB3 HP3 HE3
    rw [← hW0] at HT3
    have A3 := hide HA3
    have B3 := hide HB3
    have P3 := hide HP3
    have E3 := hide HE3
    have T3 := hide HT3
    have HW0 := hide hW0
    clear HT2 HA2 HB2 T13 hA13 hB13 hP hE hP13 hE13 b13 z13 q12 HA3 HB3 HP3 HE3 HT3 hsz0 hW0 ha hb hp he
    have LEN := hide (And.intro (And.intro (StrsAt.len (unhide A3).1) (StrsAt.len (unhide A3).2.2.2.1)) (And.intro (StrsAt.len (unhide B3).1) (StrsAt.len (unhide B3).2.2.2.1)))
    obtain ⟨vsa, ga3, ga3s⟩ := (unhide A3).2.2.1
    obtain ⟨vsb, gb3, gb3s⟩ := (unhide B3).2.2.1
    have GA := hide (And.intro ga3 ga3s)
    have GB := hide (And.intro gb3 gb3s)
    clear ga3 ga3s gb3 gb3s
    go_wp2_with fail
    refine (at_world (unhide HW0) (toSnap_at r sv sn (.slice u1 na.mn.length p1) (.slice u2 na.ms.length p2) (.slice u3 na.mp.length p3) (.slice u4 na.fn.length p4) (.slice u5 na.fv.length p5) na vsa W0 (unhide A3) (unhide GA).1 (unhide GA).2 (Nat.le_refl _))).mono ?_
    rintro e w14 ⟨PS, m1, m2, rfl, ⟨hPS, hK⟩, M1, M2, hf, hd, b14⟩
    have T14 := (unhide T3).step b14
    have hA14 := (unhide A3).same (Same.below b14 (Nat.le_refl _))
    have hB14 := (unhide B3).same (Same.below b14 (Nat.le_refl _))
    have hP14 := (unhide P3).same (Same.below b14 (Nat.le_refl _))
    have hE14 := (unhide E3).same (Same.below b14 (Nat.le_refl _))
    have gA14 := And.intro ((unhide GA).1.same (Same.below b14 (Nat.le_refl _))) ((unhide GA).2.same (Same.below b14 (Nat.le_refl _)))
    have gB14 := And.intro ((unhide GB).1.same (Same.below b14 (Nat.le_refl _))) ((unhide GB).2.same (Same.below b14 (Nat.le_refl _)))
    have q13 := (unhide T3).size
    have z14 := b14.size
    clear x0 x1 x2 x3 x4 x5 x6 x7 y0 y1 y2 y3 y4 y5 z0 z1 z2 f0 f1 f2
    obtain ⟨x0, x1, x2, x3, x4, x5, x6, x7, y0, y1, y2, y3, y4, y5, z0, z1, z2, _, _⟩ := T14.c
    have A4 := hide hA14
    have B4 := hide hB14
    have P4 := hide hP14
    have E4 := hide hE14
    have GA4 := hide gA14
    have GB4 := hide gB14
    have T4' := hide T14
    have HK4 := hide hK
    have MM1 := hide M1
    have MM2 := hide M2
    have HF4 := hide hf
    have HD4 := hide hd
    have HP4 := hide hPS
    clear A3 B3 P3 E3 GA GB T3 HW0 T14 hA14 hB14 hP14 hE14 gA14 gB14 hK M1 M2 hf hd hPS b14
    go_wp2_with fail
    refine (toSnap_at r sv sn (.slice u1 na.mn.length p1) (.slice u2 na.ms.length p2) (.slice u3 na.mp.length p3) (.slice u4 na.fn.length p4) (.slice u5 na.fv.length p5) na vsa w14 (unhide A4) (unhide GA4).1 (unhide GA4).2 (by omega)).mono ?_
    rintro e w15 ⟨PB, m3, m4, rfl, ⟨hPB, hKB⟩, M3, M4, _, _, b15⟩
    have T15 := (unhide T4').step b15
    have z15 := b15.size
    have l14 := (unhide HK4).lt
    have hs15 : ∀ lo : Nat, Same lo w14.heap.size w14 w15 := fun _ => Same.below b15 (Nat.le_refl _)
    have K15 := hide ((unhide HK4).below b15 l14)
    have B15 := hide ((unhide B4).same ((hs15 _).mono (Nat.le_refl _) z14))
    have P15 := hide ((unhide P4).same ((hs15 _).mono (Nat.le_refl _) z14))
    have E15 := hide ((unhide E4).same ((hs15 _).mono (Nat.le_refl _) z14))
    have GB15 := hide (And.intro ((unhide GB4).1.same ((hs15 _).mono (Nat.le_refl _) z14)) ((unhide GB4).2.same ((hs15 _).mono (Nat.le_refl _) z14)))
    have N1 := hide ((unhide MM1).same (hs15 _))
    have N2 := hide ((unhide MM2).same (hs15 _))
    have N3 := hide M3
    have N4 := hide M4
    clear x0 x1 x2 x3 x4 x5 x6 x7 y0 y1 y2 y3 y4 y5 z0 z1 z2
    obtain ⟨x0, x1, x2, x3, x4, x5, x6, x7, y0, y1, y2, y3, y4, y5, z0, z1, z2, _, _⟩ := T15.c
    have pb0 := hKB.cell 0
    have pb1 := hKB.cell 1
    have pb2 := hKB.cell 2
    simp only [List.getElem?_toArray, List.getElem?_cons_zero, List.getElem?_cons_succ] at pb0 pb1 pb2
    have lt15 : w.heap.size + 1 < w15.heap.size := by have := T15.size; omega
    have lt15' : w.heap.size < w15.heap.size := by omega
    have T15' := hide T15
    clear T4' A4 B4 P4 E4 GA4 GB4 MM1 MM2 HK4 T15 M3 M4 hKB b15 hs15
    go_wp2_with fail
    refine (toNews_vs s (.slice v1 nb.mn.length g1) (.slice v2 nb.ms.length g2) (.slice v3 nb.mp.length g3) (.slice v4 nb.fn.length g4) (.slice v5 nb.fv.length g5) false nb vsb (w15.alloc (.cells #[.int .u64 r, .map m3, .map m4] 36)) ((unhide B15).same ((Same.refl _ _ _).alloc _ (by omega))) ((unhide GB15).1.same ((Same.refl _ _ _).alloc _ (by omega))) ((unhide GB15).2.same ((Same.refl _ _ _).alloc _ (by omega))) (by simp; omega)).mono ?_
    rintro e w16 ⟨m5, m6, rfl, M5, M6, _, b16⟩
    have z16 : w15.heap.size + 1 ≤ w16.heap.size := by have := b16.size; simpa using this
    have T16 := ((unhide T15').step ((Below.refl _ _).alloc (Nat.le_refl _) _)).step b16
    have hs16 : ∀ lo : Nat, Same lo w15.heap.size w15 w16 := fun lo => ((Same.refl _ _ _).alloc _ (Nat.le_refl _)).trans (Same.below b16 (by simp))
    have n12 : Nx w16 w15.heap.size (.int .u64 r) (.map m3) (.map m4) := (Nx.new w15 _ _ _).below b16 (by simp)
    have K16 : Bk w16 PS #[.int .u64 r, .map m1, .map m2, .string sn, .int .u64 sv] 59 := (hs16 0 PS (Nat.zero_le _) (unhide K15).lt).trans (unhide K15)
    obtain ⟨o7, hal⟩ : ∃ o7 : Obj, o7 = .cells #[.int .u64 s, .map m5, .map m6] 36 := ⟨_, rfl⟩
    have ha7 : ∀ lo, Same lo w16.heap.size w16 (w16.alloc o7) := fun lo => (Same.refl _ _ _).alloc _ (Nat.le_refl _)
    have PK : Pack w (w16.alloc o7) W0.heap.size w14.heap.size w15.heap.size w16.heap.size PS r s sv sn nm m1 m2 m3 m4 m5 m6 (.slice k1 pl.length h1) (.slice k2 es.length h2) pl es na.mn.length na.fn.length nb.mn.length nb.fn.length (mapOf (marks na.mn na.ms vsa)) (mapOf (fins na.fn na.fv)) (mapOf (marks nb.mn nb.ms vsb)) (mapOf (fins nb.fn nb.fv)) :=
      ⟨n12.alloc _, by rw [hal]; exact Nx.new w16 _ _ _, T16.z.alloc _, K16.alloc _,
       ((unhide N1).same ((hs16 _).mono (Nat.le_refl _) z15)).same ((ha7 _).mono (Nat.le_refl _) (by omega)), ((unhide N2).same ((hs16 _).mono (Nat.le_refl _) z15)).same ((ha7 _).mono (Nat.le_refl _) (by omega)),
       ((unhide N3).same (hs16 _)).same ((ha7 _).mono (Nat.le_refl _) (by omega)), ((unhide N4).same (hs16 _)).same ((ha7 _).mono (Nat.le_refl _) (by omega)),
       (M5.mono (by simp) (Nat.le_refl _)).same (ha7 _), (M6.mono (by simp) (Nat.le_refl _)).same (ha7 _),
       ((unhide P15).same ((hs16 _).mono (Nat.le_refl _) (by omega))).same ((ha7 _).mono (Nat.le_refl _) (by omega)), ((unhide E15).same ((hs16 _).mono (Nat.le_refl _) (by omega))).same ((ha7 _).mono (Nat.le_refl _) (by omega)),
       q13, unhide HP4, l14, z15, by omega, by simp, T16.below.alloc (by have := T16.size; omega) _⟩
    have CE : Clear es (mapOf (marks nb.mn nb.ms vsb)) := clear_marks (unhide HG1)
    have CG : Clear es (mapOf (fins nb.fn nb.fv)) := clear_fins (unhide HG2)
    generalize mapOf (marks na.mn na.ms vsa) = D at PK
    generalize mapOf (fins na.fn na.fv) = F at PK
    generalize mapOf (marks nb.mn nb.ms vsb) = E at PK CE
    generalize mapOf (fins nb.fn nb.fv) = G at PK CG
    obtain ⟨q0, q1', q2'⟩ := n12.cells
    have ltn : w15.heap.size < w16.heap.size := by omega
    have PK' := hide PK
    have CE' := hide CE
    have CG' := hide CG
    have HAL := hide hal
    clear x0 x1 x2 x3 x4 x5 x6 x7 y0 y1 y2 y3 y4 y5 z0 z1 z2 pb0 pb1 pb2 T15' B15 P15 E15 GB15 N1 N2 N3 N4 K15 T16 hs16 n12 K16 M5 M6 b16 PK CE CG ha7 hal HG1 HG2 lt15 lt15'
    go_wp2_with fail
    have kcov := covers_any r s m3 m4 m5 m6 (w16.alloc o7) D F E G (Nat.le_refl _) ((unhide PK').M3.mono (Nat.zero_le _) (by have := (unhide PK').o5; have := (unhide PK').o6; omega)) ((unhide PK').M4.mono (Nat.zero_le _) (by have := (unhide PK').o5; have := (unhide PK').o6; omega)) ((unhide PK').M5.mono (Nat.zero_le _) (by have := (unhide PK').o6; omega)) ((unhide PK').M6.mono (Nat.zero_le _) (by have := (unhide PK').o6; omega))
    refine (at_world (congrArg (World.alloc w16) (unhide HAL)) kcov).mono ?_
    rintro e w18 ⟨cb, rfl, hcb, b18⟩
    have PK18 := (unhide PK').step b18
    clear PK' b18 q0 q1' q2' HAL
    have PKd := PK18.step (Below.refl _ _).drew
    have C18 := hide PKd.sj
    have hs2 : 0 < s := by omega
    have kJ : ∀ w1, Below w18.drew.heap.size w18.drew w1 → Calls Try.prog 22 #[.pointer (some ⟨PS, 0, none⟩), .agg #[.int .u64 s, .map m5, .map m6], .agg #[.string nm, .slice k1 pl.length h1, .slice k2 es.length h2], .int .u64 q1, .int .u64 q2] w1 fun e w' => ∃ got, e = .returned (.bool got) ∧ Joint w1 w' PS m1 m2 r s D F E G got ∧ SJ w16.heap.size (w.heap.size + 2) s m5 m6 nm (.slice k1 pl.length h1) (.slice k2 es.length h2) w' := fun w1 b => by
      have P1 := PKd.step b
      obtain ⟨⟨n1, n2⟩, n3, n4⟩ := unhide LEN
      refine (join_any PS r s sv q1 q2 sn nm m1 m2 m5 m6 k1 pl.length h1 (.slice k2 es.length h2) pl es D F E G w1 hr hs2 hnm' P1.k (unhide HF4) (unhide HD4) P1.M1 P1.M2 P1.M5 P1.M6 P1.P P1.E (unhide CE') (unhide CG') (Nat.le_refl _) (by have := P1.o4; omega) (by have := P1.o6; omega) P1.o2 (by have := P1.o3; have := P1.o4; omega) (by have := P1.o4; have := P1.o5; have := P1.o6; omega) (by have := P1.o2; have := P1.o3; have := P1.o4; have := P1.o5; have := P1.o6; omega) (by unfold maxLen; omega) (by unfold maxLen; omega)).mono ?_
      rintro e w' ⟨got, rfl, hJ⟩
      exact ⟨got, rfl, hJ, P1.sj' hJ⟩
    have KJ := hide kJ
    have PKD := hide PKd
    have HCB := hide hcb
    clear kJ PKd PK18 hcb HF4 HD4 HP4 LEN CE' CG' q13 z14 l14 z15 z16
    go_wp2_with fail
    go_region_held3 (fun w' => w'.cell? ⟨w16.heap.size, 0, none⟩ = some (.int .u64 s) ∧ w'.cell? ⟨w16.heap.size, 1, none⟩ = some (.map m5) ∧ w'.cell? ⟨w16.heap.size, 2, none⟩ = some (.map m6) ∧ w'.cell? ⟨w.heap.size + 2, 0, none⟩ = some (.string nm) ∧ w'.cell? ⟨w.heap.size + 2, 1, none⟩ = some (.slice k1 pl.length h1) ∧ w'.cell? ⟨w.heap.size + 2, 2, none⟩ = some (.slice k2 es.length h2)) (first | with_reducible exact unhide C18 | with_reducible assumption | with_reducible exact SJ.step (s := s) (m5 := m5) (m6 := m6) (nm := nm) (vp := .slice k1 pl.length h1) (ve := .slice k2 es.length h2) (L4 := w16.heap.size) (B7 := w.heap.size + 2) (by assumption) (by assumption)) (first | (go_at_call 23; refine (toSite_any nm k1 k2 pl.length h1 es.length h2 _).mono ?_; rintro e w19 ⟨rfl, b19⟩) | (go_at_call 22; refine (unhide KJ _ b19).mono ?_; rintro e w20 ⟨got, rfl, hJ, hS20⟩))
    rename_i hHeld
    clear hHeld
    have P19 := (unhide PKD).step b19
    obtain ⟨hgot, r', mo, fo, D', F', pc1, pc2, PO⟩ := P19.post hJ
    have hg : got = !cb := by
      have h1 := unhide HCB
      by_cases hc : CoversP r D F s E G
      · have e1 : cb = true := h1.2 hc
        have e2 : got = false := by
          cases got with
          | false => rfl
          | true => exact absurd hc (hgot.1 rfl)
        rw [e1, e2]
        rfl
      · have e1 : cb = false := by
          cases cb with
          | false => rfl
          | true => exact absurd (h1.1 rfl) hc
        have e2 : got = true := hgot.2 hc
        rw [e1, e2]
        rfl
    subst hg
    have POd := PO.step (Below.refl _ _).drew
    have C20 := hide POd.sf
    obtain ⟨hi9, e1, e2, e3, e4, e5, e6, hh9, Q1, Q2, Q3, Q4, Q5, Q6⟩ := POd.hi
    have kC1 : ∀ w1, Below w20.drew.heap.size w20.drew w1 → Calls Try.prog 14 #[.agg #[.int .u64 r', .map mo, .map fo], .agg #[.int .u64 r, .map m3, .map m4]] w1 fun e w' => e = .returned (.bool true) ∧ Below w1.heap.size w1 w' := fun w1 b => by
      have hs9 := Same.below (lo := 0) b hh9
      refine (covers_any r' r mo fo m3 m4 w1 D' F' D F (Nat.le_trans hh9 b.size) (Q1.same hs9) (Q2.same hs9) (Q3.same hs9) (Q4.same hs9)).mono ?_
      rintro e w' ⟨x, rfl, hx, b'⟩
      obtain rfl : x = true := hx.2 pc1
      exact ⟨rfl, b'⟩
    have kC2 : ∀ w1, Below w20.drew.heap.size w20.drew w1 → Calls Try.prog 14 #[.agg #[.int .u64 r', .map mo, .map fo], .agg #[.int .u64 s, .map m5, .map m6]] w1 fun e w' => e = .returned (.bool true) ∧ Below w1.heap.size w1 w' := fun w1 b => by
      have hs9 := Same.below (lo := 0) b hh9
      refine (covers_any r' s mo fo m5 m6 w1 D' F' E G (Nat.le_trans hh9 b.size) (Q1.same hs9) (Q2.same hs9) (Q5.same hs9) (Q6.same hs9)).mono ?_
      rintro e w' ⟨x, rfl, hx, b'⟩
      obtain rfl : x = true := hx.2 pc2
      exact ⟨rfl, b'⟩
    have KC1 := hide (kC1 _ (Below.refl _ _))
    have KC2 := hide kC2
    have HPO := hide POd
    clear kC1 kC2 POd PO P19 hgot pc1 pc2 Q1 Q2 Q3 Q4 Q5 Q6 hh9 hJ hS20 KJ PKD HCB C18 b19
    cases cb with
    | false =>
      go_wp2_with fail
      go_region_held3 (fun w' => w'.cell? ⟨PS, 0, none⟩ = some (.int .u64 r') ∧ w'.cell? ⟨PS, 1, none⟩ = some (.map mo) ∧ w'.cell? ⟨PS, 2, none⟩ = some (.map fo) ∧ w'.cell? ⟨w15.heap.size, 0, none⟩ = some (.int .u64 r) ∧ w'.cell? ⟨w15.heap.size, 1, none⟩ = some (.map m3) ∧ w'.cell? ⟨w15.heap.size, 2, none⟩ = some (.map m4) ∧ w'.cell? ⟨w16.heap.size, 0, none⟩ = some (.int .u64 s) ∧ w'.cell? ⟨w16.heap.size, 1, none⟩ = some (.map m5) ∧ w'.cell? ⟨w16.heap.size, 2, none⟩ = some (.map m6)) (first | with_reducible exact unhide C20 | with_reducible assumption | with_reducible exact SF.step (PS := PS) (L3 := w15.heap.size) (L4 := w16.heap.size) (r := r) (s := s) (r' := r') (mo := mo) (fo := fo) (m3 := m3) (m4 := m4) (m5 := m5) (m6 := m6) (by assumption) (by assumption)) (first | (go_at_call_of 14 (Value.agg #[.int .u64 r, .map m3, .map m4]); refine (unhide KC1).mono ?_; rintro e w21 ⟨rfl, b21⟩) | (go_at_call_of 14 (Value.agg #[.int .u64 s, .map m5, .map m6]); refine (unhide KC2 _ b21).mono ?_; rintro e w22 ⟨rfl, b22⟩))
      have HPO2 := hide (((unhide HPO).step b21).step b22).below
      clear b21 b22 HPO KC1 KC2 C20
      go_wp2
      go_ret
      exact ⟨rfl, unhide HPO2⟩
    | true =>
      go_wp2_with fail
      go_region_held3 (fun w' => w'.cell? ⟨PS, 0, none⟩ = some (.int .u64 r') ∧ w'.cell? ⟨PS, 1, none⟩ = some (.map mo) ∧ w'.cell? ⟨PS, 2, none⟩ = some (.map fo) ∧ w'.cell? ⟨w15.heap.size, 0, none⟩ = some (.int .u64 r) ∧ w'.cell? ⟨w15.heap.size, 1, none⟩ = some (.map m3) ∧ w'.cell? ⟨w15.heap.size, 2, none⟩ = some (.map m4) ∧ w'.cell? ⟨w16.heap.size, 0, none⟩ = some (.int .u64 s) ∧ w'.cell? ⟨w16.heap.size, 1, none⟩ = some (.map m5) ∧ w'.cell? ⟨w16.heap.size, 2, none⟩ = some (.map m6)) (first | with_reducible exact unhide C20 | with_reducible assumption | with_reducible exact SF.step (PS := PS) (L3 := w15.heap.size) (L4 := w16.heap.size) (r := r) (s := s) (r' := r') (mo := mo) (fo := fo) (m3 := m3) (m4 := m4) (m5 := m5) (m6 := m6) (by assumption) (by assumption)) (first | (go_at_call_of 14 (Value.agg #[.int .u64 r, .map m3, .map m4]); refine (unhide KC1).mono ?_; rintro e w21 ⟨rfl, b21⟩) | (go_at_call_of 14 (Value.agg #[.int .u64 s, .map m5, .map m6]); refine (unhide KC2 _ b21).mono ?_; rintro e w22 ⟨rfl, b22⟩))
      have HPO2 := hide (((unhide HPO).step b21).step b22).below
      clear b21 b22 HPO KC1 KC2 C20
      go_wp2
      go_ret
      exact ⟨rfl, unhide HPO2⟩

end Go.Proofs.Qxb6601448a
