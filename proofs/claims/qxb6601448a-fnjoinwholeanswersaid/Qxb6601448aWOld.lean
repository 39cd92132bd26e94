/- The law FnJoinWholeAnswer, walked: news of round 0 or of an earlier round. -/
import Derived.Test.Qxb6601448aWPack
import Derived.Test.Qxb6601448aJoinPre
import Derived.Test.Qxb6601448aZz15
import Derived.Deep.Cut
import Derived.Deep.CutRange
namespace Go.Proofs.Qxb6601448a
open Go.RowKit
open Go.Maps (has IsMap)
set_option linter.unusedVariables false

set_option maxRecDepth 100000 in
set_option maxHeartbeats 8000000 in
theorem joinWhole_old (r s sv : Int) (sn nm : ByteArray) (a1 a2 a3 a4 a5 b1 b2 b3 b4 b5 vp ve : Value) (q1 q2 : Int) (na nb : News) (pl es : List ByteArray) (w : World) {lo hi : Nat} (ha : NewsAt lo hi w a1 a2 a3 a4 a5 na) (hb : NewsAt lo hi w b1 b2 b3 b4 b5 nb) (hp : StrsAt lo hi w vp pl) (he : StrsAt lo hi w ve es) (hsn : sn.size ≤ 140737488351232) (hnm : nm.size ≤ 140737488351232) (hh : hi ≤ w.heap.size) (hr : 0 ≤ r) (hs : 0 ≤ s) (hcase : s = 0 ∨ s < r) :
    Calls Try.prog 4 #[Value.agg #[.int .u64 r, a1, a2, a3, a4, a5, .string sn, .int .u64 sv], .agg #[.int .u64 s, b1, b2, b3, b4, b5], .agg #[.string nm, vp, ve], .int .u64 q1, .int .u64 q2] w fun e w' => e = .returned (.bool true) ∧ Below w.heap.size w w' := by
  have HCASE := hide hcase
  clear hcase
  have T0 := Trio.start w r s sv sn nm a1 a2 a3 a4 a5 b1 b2 b3 b4 b5 vp ve
  have kz : Calls Try.prog 15 _ _ _ := zz15 r s sv q1 q2 sn nm a1 a2 a3 a4 a5 b1 b2 b3 b4 b5 vp ve na nb pl es _ (ha.same (T0.same hh)) (hb.same (T0.same hh)) (hp.same (T0.same hh)) (he.same (T0.same hh)) hsn hnm (by have := T0.size; omega)
  have KZ := hide kz
  have HT0 := hide T0
  have hsn' : sn.size ≤ maxLen := by unfold maxLen; omega
  have hnm' : nm.size ≤ maxLen := by unfold maxLen; omega
  clear kz T0
  go_enter Try.func4, Try.ntmps4
  go_wp2_with fail
  refine (unhide KZ).mono ?_
  rintro e w4 ⟨⟨b, rfl⟩, hb4⟩
  have T4 := (unhide HT0).step hb4
  clear KZ HT0 hb4
  cases b with
  | false =>
    go_wp2
    go_ret
    exact ⟨rfl, T4.below⟩
  | true =>
    have C4 : TrioC w r s sv sn nm a1 a2 a3 a4 a5 b1 b2 b3 b4 b5 vp ve w4.drew := (T4.step (Below.refl _ _).drew).c
    have kA : ∀ w1, TrioC w r s sv sn nm a1 a2 a3 a4 a5 b1 b2 b3 b4 b5 vp ve w1 → Calls Try.prog 16 #[.agg #[.int .u64 r, a1, a2, a3, a4, a5, .string sn, .int .u64 sv]] w1 fun e w' => (∃ z, e = .returned (.int .i64 z)) ∧ Below w1.heap.size w1 w' := fun w1 hS => bytesOfSnap_any r sv sn a1 a2 a3 a4 a5 na w1 hsn' (ha.same (Same.below hS.src.1 hh)) (by have := hS.src.2; omega)
    have kB : ∀ w1, TrioC w r s sv sn nm a1 a2 a3 a4 a5 b1 b2 b3 b4 b5 vp ve w1 → Calls Try.prog 10 #[.agg #[.int .u64 s, b1, b2, b3, b4, b5]] w1 fun e w' => (∃ z, e = .returned (.int .i64 z)) ∧ Below w1.heap.size w1 w' := fun w1 hS => bytesOfNews_any s b1 b2 b3 b4 b5 nb w1 (hb.same (Same.below hS.src.1 hh)) (by have := hS.src.2; omega)
    have kC : ∀ w1, TrioC w r s sv sn nm a1 a2 a3 a4 a5 b1 b2 b3 b4 b5 vp ve w1 → Calls Try.prog 17 #[.agg #[.string nm, vp, ve]] w1 fun e w' => (∃ z, e = .returned (.int .i64 z)) ∧ Below w1.heap.size w1 w' := fun w1 hS => bytesOfSite_any nm vp ve pl es w1 hnm' (hp.same (Same.below hS.src.1 hh)) (he.same (Same.below hS.src.1 hh)) (by have := hS.src.2; omega)
    have KA := hide kA
    have KB := hide kB
    have KC := hide kC
    have C4' := hide C4
    have HT4 := hide T4
    clear kA kB kC C4 T4
    go_wp2_with fail
    go_region_held3 (fun w' => w'.cell? ⟨w.heap.size, 0, none⟩ = some (.int .u64 r) ∧ w'.cell? ⟨w.heap.size, 1, none⟩ = some a1 ∧ w'.cell? ⟨w.heap.size, 2, none⟩ = some a2 ∧ w'.cell? ⟨w.heap.size, 3, none⟩ = some a3 ∧ w'.cell? ⟨w.heap.size, 4, none⟩ = some a4 ∧ w'.cell? ⟨w.heap.size, 5, none⟩ = some a5 ∧ w'.cell? ⟨w.heap.size, 6, none⟩ = some (.string sn) ∧ w'.cell? ⟨w.heap.size, 7, none⟩ = some (.int .u64 sv) ∧ w'.cell? ⟨w.heap.size + 1, 0, none⟩ = some (.int .u64 s) ∧ w'.cell? ⟨w.heap.size + 1, 1, none⟩ = some b1 ∧ w'.cell? ⟨w.heap.size + 1, 2, none⟩ = some b2 ∧ w'.cell? ⟨w.heap.size + 1, 3, none⟩ = some b3 ∧ w'.cell? ⟨w.heap.size + 1, 4, none⟩ = some b4 ∧ w'.cell? ⟨w.heap.size + 1, 5, none⟩ = some b5 ∧ w'.cell? ⟨w.heap.size + 2, 0, none⟩ = some (.string nm) ∧ w'.cell? ⟨w.heap.size + 2, 1, none⟩ = some vp ∧ w'.cell? ⟨w.heap.size + 2, 2, none⟩ = some ve ∧ w.heap.size + 3 ≤ w'.heap.size ∧ Below w.heap.size w w') (first | with_reducible exact unhide C4' | with_reducible exact TrioC.step (by assumption) (by assumption) | assumption) (first | (go_at_call 9; refine (addB_any _ _ _).mono ?_; rintro e w' ⟨⟨z, rfl⟩, hwz⟩; obtain rfl := hwz.symm) | (go_at_call 16; refine (unhide KA _ ?_).mono ?_; assumption; rintro e w5 ⟨⟨z5, rfl⟩, bA⟩) | (go_at_call 10; refine (unhide KB _ ?_).mono ?_; assumption; rintro e w6 ⟨⟨z6, rfl⟩, bB⟩) | (go_at_call 17; refine (unhide KC _ ?_).mono ?_; assumption; rintro e w7 ⟨⟨z7, rfl⟩, bC⟩))
    have T7 := ((((unhide HT4).step (Below.refl _ _).drew).step bA).step bB).step bC
    clear KA KB KC C4' HT4 bA bB bC
    go_wp2_with fail
    · go_ret
      exact ⟨rfl, T7.below⟩
    obtain ⟨x0, x1, x2, x3, x4, x5, x6, x7, y0, y1, y2, y3, y4, y5, z0, z1, z2, _, _⟩ := T7.c
    cases hfa : decide (na.mn.length ≤ 4096 ∧ na.fn.length ≤ 4096) with
    | false =>
      have HF := hide hfa
      clear hfa
      refine (countsFit_at r a1 a2 a3 a4 a5 na _ (ha.same (T7.same hh)) HF).mono ?_
      rintro e w8 ⟨rfl, b8⟩
      go_wp2
      go_ret
      exact ⟨rfl, (T7.step b8).below⟩
    | true =>
    have HFA := hide hfa
    clear hfa
    refine (countsFit_at r a1 a2 a3 a4 a5 na _ (ha.same (T7.same hh)) HFA).mono ?_
    rintro e w8 ⟨rfl, b8⟩
    have T8 := T7.step b8
    clear T7 b8 x0 x1 x2 x3 x4 x5 x6 x7 y0 y1 y2 y3 y4 y5 z0 z1 z2
    obtain ⟨x0, x1, x2, x3, x4, x5, x6, x7, y0, y1, y2, y3, y4, y5, z0, z1, z2, _, _⟩ := T8.c
    cases hfb : decide (nb.mn.length ≤ 4096 ∧ nb.fn.length ≤ 4096) with
    | false =>
      have HF := hide hfb
      clear hfb
      go_wp2_with fail
      refine (countsFit_at s b1 b2 b3 b4 b5 nb _ (hb.same (T8.same hh)) HF).mono ?_
      rintro e w9 ⟨rfl, b9⟩
      go_wp2
      go_ret
      exact ⟨rfl, (T8.step b9).below⟩
    | true =>
    have HFB := hide hfb
    clear hfb
    go_wp2_with fail
    refine (countsFit_at s b1 b2 b3 b4 b5 nb _ (hb.same (T8.same hh)) HFB).mono ?_
    rintro e w9 ⟨rfl, b9⟩
    have T9 := T8.step b9
    clear T8 b9 x0 x1 x2 x3 x4 x5 x6 x7 y0 y1 y2 y3 y4 y5 z0 z1 z2
    obtain ⟨x0, x1, x2, x3, x4, x5, x6, x7, y0, y1, y2, y3, y4, y5, z0, z1, z2, _, _⟩ := T9.c
    cases hfc : decide (pl.length ≤ 4096 ∧ es.length ≤ 4096) with
    | false =>
      have HF := hide hfc
      clear hfc
      go_wp2_with fail
      refine (siteFit_at nm vp ve pl es _ (hp.same (T9.same hh)) (he.same (T9.same hh)) HF).mono ?_
      rintro e w10 ⟨rfl, b10⟩
      go_wp2
      go_ret
      exact ⟨rfl, (T9.step b10).below⟩
    | true =>
    have HFC := hide hfc
    clear hfc
    go_wp2_with fail
    refine (siteFit_at nm vp ve pl es _ (hp.same (T9.same hh)) (he.same (T9.same hh)) HFC).mono ?_
    rintro e w10 ⟨rfl, b10⟩
    have T10 := T9.step b10
    clear T9 b10 x0 x1 x2 x3 x4 x5 x6 x7 y0 y1 y2 y3 y4 y5 z0 z1 z2
    obtain ⟨x0, x1, x2, x3, x4, x5, x6, x7, y0, y1, y2, y3, y4, y5, z0, z1, z2, _, _⟩ := T10.c
    go_wp2_with fail
    refine (copySnap_sh r sv sn a1 a2 a3 a4 a5 na _ (ha.same (T10.same hh)) (by have := T10.size; omega)).mono ?_
    rintro e w11 ⟨u1, p1, u2, p2, u3, p3, u4, p4, u5, p5, rfl, hA, b11⟩
    have T11 := T10.step b11
    have q10 := T10.size
    have q11 := b11.size
    clear x0 x1 x2 x3 x4 x5 x6 x7 y0 y1 y2 y3 y4 y5 z0 z1 z2
    obtain ⟨x0, x1, x2, x3, x4, x5, x6, x7, y0, y1, y2, y3, y4, y5, z0, z1, z2, _, _⟩ := T11.c
    have f0 := T11.x.free 0
    have f1 := T11.x.free 1
    have f2 := T11.x.free 2
    have f3 := T11.x.free 3
    have f4 := T11.x.free 4
    have f5 := T11.x.free 5
    have f6 := T11.x.free 6
    have f7 := T11.x.free 7
    have HT := hide (T11.setx (.slice u1 na.mn.length p1) (.slice u2 na.ms.length p2) (.slice u3 na.mp.length p3) (.slice u4 na.fn.length p4) (.slice u5 na.fv.length p5))
    have HA := hide ((hA.mono (lo' := w.heap.size + 3) (hi' := w11.heap.size) q10 (Nat.le_refl _)).same (eight_range (Same.refl _ _ _) (b := w.heap.size) (Or.inl (by omega)) (.int .u64 r) (.slice u1 na.mn.length p1) (.slice u2 na.ms.length p2) (.slice u3 na.mp.length p3) (.slice u4 na.fn.length p4) (.slice u5 na.fv.length p5) (.string sn) (.int .u64 sv)))
    clear T10 T11 hA b11 q11 q10
    go_wp2_with fail
    refine (copyNews_sh s b1 b2 b3 b4 b5 nb _ (hb.same ((unhide HT).same hh)) (by have := (unhide HT).size; omega)).mono ?_
    rintro e w12 ⟨v1, g1, v2, g2, v3, g3, v4, g4, v5, g5, rfl, hB, b12⟩
    have q11 := (unhide HT).size
    have T12 := (unhide HT).step b12
    have z12 := b12.size
    rw [eight_size] at z12 q11
    have hA12 := ((unhide HA).same (Same.below b12 (by rw [eight_size]; exact Nat.le_refl _))).mono (lo' := w.heap.size + 3) (hi' := w12.heap.size) (Nat.le_refl _) z12
    have hB12 := hB.mono (lo' := w.heap.size + 3) (hi' := w12.heap.size) (by rw [eight_size]; exact q11) (Nat.le_refl _)
    clear x0 x1 x2 x3 x4 x5 x6 x7 y0 y1 y2 y3 y4 y5 z0 z1 z2 f0 f1 f2 f3 f4 f5 f6 f7
    obtain ⟨x0, x1, x2, x3, x4, x5, x6, x7, y0, y1, y2, y3, y4, y5, z0, z1, z2, _, _⟩ := T12.c
    have f0 := T12.y.free 0
    have f1 := T12.y.free 1
    have f2 := T12.y.free 2
    have f3 := T12.y.free 3
    have f4 := T12.y.free 4
    have f5 := T12.y.free 5
    have HT2 := hide (T12.sety (.slice v1 nb.mn.length g1) (.slice v2 nb.ms.length g2) (.slice v3 nb.mp.length g3) (.slice v4 nb.fn.length g4) (.slice v5 nb.fv.length g5))
    have HA2 := hide (hA12.same (six_range (Same.refl _ _ _) (b := w.heap.size + 1) (Or.inl (by omega)) (.int .u64 s) (.slice v1 nb.mn.length g1) (.slice v2 nb.ms.length g2) (.slice v3 nb.mp.length g3) (.slice v4 nb.fn.length g4) (.slice v5 nb.fv.length g5)))
    have HB2 := hide (hB12.same (six_range (Same.refl _ _ _) (b := w.heap.size + 1) (Or.inl (by omega)) (.int .u64 s) (.slice v1 nb.mn.length g1) (.slice v2 nb.ms.length g2) (.slice v3 nb.mp.length g3) (.slice v4 nb.fn.length g4) (.slice v5 nb.fv.length g5)))
    clear HT HA T12 hA12 hB hB12 b12 z12 q11
    go_wp2_with fail
    refine (copySite_sh nm vp ve pl es _ (hp.same ((unhide HT2).same hh)) (he.same ((unhide HT2).same hh)) (by have := (unhide HT2).size; omega)).mono ?_
    rintro e w13 ⟨k1, h1, k2, h2, rfl, hP, hE, b13⟩
    have q12 := (unhide HT2).size
    have T13 := (unhide HT2).step b13
    have z13 := b13.size
    rw [six_size] at z13 q12
    have hA13 := ((unhide HA2).same (Same.below b13 (by rw [six_size]; exact Nat.le_refl _))).mono (lo' := w.heap.size + 3) (hi' := w13.heap.size) (Nat.le_refl _) z13
    have hB13 := ((unhide HB2).same (Same.below b13 (by rw [six_size]; exact Nat.le_refl _))).mono (lo' := w.heap.size + 3) (hi' := w13.heap.size) (Nat.le_refl _) z13
    have hP13 := hP.mono (lo' := w.heap.size + 3) (hi' := w13.heap.size) (by rw [six_size]; exact q12) (Nat.le_refl _)
    have hE13 := hE.mono (lo' := w.heap.size + 3) (hi' := w13.heap.size) (by rw [six_size]; exact q12) (Nat.le_refl _)
    clear x0 x1 x2 x3 x4 x5 x6 x7 y0 y1 y2 y3 y4 y5 z0 z1 z2 f0 f1 f2 f3 f4 f5
    obtain ⟨x0, x1, x2, x3, x4, x5, x6, x7, y0, y1, y2, y3, y4, y5, z0, z1, z2, _, _⟩ := T13.c
    have f0 := T13.z.free 0
    have f1 := T13.z.free 1
    have f2 := T13.z.free 2
    have hcol : ∃ W0, W0 = three w13 (w.heap.size + 2) (.string nm) (.slice k1 pl.length h1) (.slice k2 es.length h2) := ⟨_, rfl⟩
    obtain ⟨W0, hW0⟩ := hcol
    have HT3 := T13.setz (.slice k1 pl.length h1) (.slice k2 es.length h2)
    have HA3 := hA13.same (three_range (Same.refl _ _ _) (b := w.heap.size + 2) (Or.inl (by omega)) (.string nm) (.slice k1 pl.length h1) (.slice k2 es.length h2))
    have HB3 := hB13.same (three_range (Same.refl _ _ _) (b := w.heap.size + 2) (Or.inl (by omega)) (.string nm) (.slice k1 pl.length h1) (.slice k2 es.length h2))
    have HP3 := hP13.same (three_range (Same.refl _ _ _) (b := w.heap.size + 2) (Or.inl (by omega)) (.string nm) (.slice k1 pl.length h1) (.slice k2 es.length h2))
    have HE3 := hE13.same (three_range (Same.refl _ _ _) (b := w.heap.size + 2) (Or.inl (by omega)) (.string nm) (.slice k1 pl.length h1) (.slice k2 es.length h2))
    have hsz0 : W0.heap.size = w13.heap.size := by rw [hW0]; exact three_size _ _ _ _ _
    rw [← hW0, ← hsz0] at HA3 HB3 HP3 HE3
    rw [← hW0] at HT3
    have A3 := hide HA3
    have B3 := hide HB3
    have P3 := hide HP3
    have E3 := hide HE3
    have T3 := hide HT3
    have HW0 := hide hW0
    clear HT2 HA2 HB2 T13 hA13 hB13 hP hE hP13 hE13 b13 z13 q12 HA3 HB3 HP3 HE3 HT3 hsz0 hW0 ha hb hp he
    obtain ⟨vsa, ga3, ga3s⟩ := (unhide A3).2.2.1
    obtain ⟨vsb, gb3, gb3s⟩ := (unhide B3).2.2.1
    have GA := hide (And.intro ga3 ga3s)
    have GB := hide (And.intro gb3 gb3s)
    clear ga3 ga3s gb3 gb3s
    go_wp2_with fail
    refine (at_world (unhide HW0) (toSnap_at r sv sn (.slice u1 na.mn.length p1) (.slice u2 na.ms.length p2) (.slice u3 na.mp.length p3) (.slice u4 na.fn.length p4) (.slice u5 na.fv.length p5) na vsa W0 (unhide A3) (unhide GA).1 (unhide GA).2 (Nat.le_refl _))).mono ?_
    rintro e w14 ⟨PS, m1, m2, rfl, ⟨hPS, hK⟩, M1, M2, hf, hd, b14⟩
    have T14 := (unhide T3).step b14
    have sb14 : Same (w.heap.size + 3) W0.heap.size W0 w14 := Same.below b14 (Nat.le_refl _)
    have SR14 : Src w w14 W0.heap.size r s sv sn nm (.slice u1 na.mn.length p1) (.slice u2 na.ms.length p2) (.slice u3 na.mp.length p3) (.slice u4 na.fn.length p4) (.slice u5 na.fv.length p5) (.slice v1 nb.mn.length g1) (.slice v2 nb.ms.length g2) (.slice v3 nb.mp.length g3) (.slice v4 nb.fn.length g4) (.slice v5 nb.fv.length g5) (.slice k1 pl.length h1) (.slice k2 es.length h2) na nb vsa vsb pl es := ⟨T14, (unhide A3).same sb14, (unhide GA).1.same sb14, (unhide GA).2.same sb14, (unhide B3).same sb14, (unhide GB).1.same sb14, (unhide GB).2.same sb14, (unhide P3).same sb14, (unhide E3).same sb14, (unhide T3).size, b14.size⟩
    obtain ⟨l1, l2⟩ := fit_le HFA
    obtain ⟨l3, l4⟩ := fit_le HFB
    obtain ⟨l5, l6⟩ := fit_le HFC
    have SRd := SR14.step (Below.refl _ _).drew
    have C14 := hide SRd.sb
    have kN := toNews_vs s (.slice v1 nb.mn.length g1) (.slice v2 nb.ms.length g2) (.slice v3 nb.mp.length g3) (.slice v4 nb.fn.length g4) (.slice v5 nb.fv.length g5) false nb vsb w14.drew SRd.B SRd.gb SRd.hs SRd.o2
    have kJ : ∀ m5 m6 w15 w16, MapIs mkR w14.drew.heap.size w15.heap.size w15 m5 nb.mn.length (mapOf (marks nb.mn nb.ms vsb)) → MapIs fiR w14.drew.heap.size w15.heap.size w15 m6 nb.fn.length (mapOf (fins nb.fn nb.fv)) → Below w14.drew.heap.size w14.drew w15 → Below w15.heap.size w15 w16 → Calls Try.prog 22 #[.pointer (some ⟨PS, 0, none⟩), .agg #[.int .u64 s, .map m5, .map m6], .agg #[.string nm, .slice k1 pl.length h1, .slice k2 es.length h2], .int .u64 q1, .int .u64 q2] w16 fun e w' => ∃ got, e = .returned (.bool got) ∧ SB (w.heap.size + 1) (w.heap.size + 2) (.int .u64 s) (.slice v1 nb.mn.length g1) (.slice v2 nb.ms.length g2) (.slice v3 nb.mp.length g3) (.slice v4 nb.fn.length g4) (.slice v5 nb.fv.length g5) (.string nm) (.slice k1 pl.length h1) (.slice k2 es.length h2) w' ∧ Src w w' W0.heap.size r s sv sn nm (.slice u1 na.mn.length p1) (.slice u2 na.ms.length p2) (.slice u3 na.mp.length p3) (.slice u4 na.fn.length p4) (.slice u5 na.fv.length p5) (.slice v1 nb.mn.length g1) (.slice v2 nb.ms.length g2) (.slice v3 nb.mp.length g3) (.slice v4 nb.fn.length g4) (.slice v5 nb.fv.length g5) (.slice k1 pl.length h1) (.slice k2 es.length h2) na nb vsa vsb pl es ∧ PS < w'.heap.size ∧ Outcome w' PS r s sv q1 q2 sn nm pl es (entsTo na.mn (mf na.ms vsa) na.mn.length) (entsTo nb.mn (mf nb.ms vsb) nb.mn.length) (entsTo na.fn (ff na.fv) na.fn.length) (entsTo nb.fn (ff nb.fv) nb.fn.length) got := fun m5 m6 w15 w16 M5 M6 b15 b16 =>
      join_out PS q1 q2 m1 m2 m5 m6 k1 k2 pl.length h1 es.length h2 w14.drew w15 w16 SRd hr hs hnm' hK hf hd hPS M1 M2 M5 M6 b15 b16 l1 l2 l3 l4
    have KN := hide kN
    have KJ := hide kJ
    clear x0 x1 x2 x3 x4 x5 x6 x7 y0 y1 y2 y3 y4 y5 z0 z1 z2 f0 f1 f2
    clear A3 B3 P3 E3 GA GB T3 HW0 T14 sb14 SR14 SRd kN kJ hK M1 M2 hf hd hPS b14 HFA HFB HFC hsn hnm
    go_wp2_with fail
    go_region_held3 (fun w' => w'.cell? ⟨w.heap.size + 1, 0, none⟩ = some (.int .u64 s) ∧ w'.cell? ⟨w.heap.size + 1, 1, none⟩ = some (.slice v1 nb.mn.length g1) ∧ w'.cell? ⟨w.heap.size + 1, 2, none⟩ = some (.slice v2 nb.ms.length g2) ∧ w'.cell? ⟨w.heap.size + 1, 3, none⟩ = some (.slice v3 nb.mp.length g3) ∧ w'.cell? ⟨w.heap.size + 1, 4, none⟩ = some (.slice v4 nb.fn.length g4) ∧ w'.cell? ⟨w.heap.size + 1, 5, none⟩ = some (.slice v5 nb.fv.length g5) ∧ w'.cell? ⟨w.heap.size + 2, 0, none⟩ = some (.string nm) ∧ w'.cell? ⟨w.heap.size + 2, 1, none⟩ = some (.slice k1 pl.length h1) ∧ w'.cell? ⟨w.heap.size + 2, 2, none⟩ = some (.slice k2 es.length h2)) (first | with_reducible exact unhide C14 | with_reducible assumption | with_reducible exact SB.step (b6 := w.heap.size + 1) (b7 := w.heap.size + 2) (c0 := .int .u64 s) (c1 := .slice v1 nb.mn.length g1) (c2 := .slice v2 nb.ms.length g2) (c3 := .slice v3 nb.mp.length g3) (c4 := .slice v4 nb.fn.length g4) (c5 := .slice v5 nb.fv.length g5) (d0 := .string nm) (d1 := .slice k1 pl.length h1) (d2 := .slice k2 es.length h2) (by assumption) (by assumption) | with_reducible exact SB.alloc (b6 := w.heap.size + 1) (b7 := w.heap.size + 2) (c0 := .int .u64 s) (c1 := .slice v1 nb.mn.length g1) (c2 := .slice v2 nb.ms.length g2) (c3 := .slice v3 nb.mp.length g3) (c4 := .slice v4 nb.fn.length g4) (c5 := .slice v5 nb.fv.length g5) (d0 := .string nm) (d1 := .slice k1 pl.length h1) (d2 := .slice k2 es.length h2) (by assumption) _) (first | (go_at_call 13; refine (unhide KN).mono ?_; rintro e w15 ⟨m5, m6, rfl, M5, M6, _, b15⟩) | (go_at_call 23; refine (toSite_any nm k1 k2 pl.length h1 es.length h2 _).mono ?_; rintro e w16 ⟨rfl, b16⟩) | (go_at_call 22; refine (unhide KJ m5 m6 _ _ M5 M6 b15 b16).mono ?_; rintro e w20 ⟨got, rfl, hSB, hSR, hPl, hOut⟩))
    rename_i hHeld
    clear hHeld hSB M5 M6 b15 b16 KN KJ C14
    have SR20 := hide hSR
    have OUT := hide hOut
    obtain ⟨x0, x1, x2, x3, x4, x5, x6, x7, y0, y1, y2, y3, y4, y5, z0, z1, z2, _, _⟩ := hSR.T.c
    clear hSR hOut
    go_wp2_with fail
    refine (markerEntries_any (.slice u1 na.mn.length p1) (.slice u2 na.ms.length p2) (.slice u3 na.mp.length p3) na.mn na.ms vsa w20 (unhide SR20).A.1 (unhide SR20).A.2.1 (unhide SR20).ga (srcA_shape (unhide SR20).gs) (unhide SR20).o2 l1).mono ?_
    rintro e w21 ⟨gM, nM, cM, rfl, eM, b21⟩
    have HEM := hide eM
    have HB21 := hide b21
    clear x0 x1 x2 x3 x4 x5 x6 x7 y0 y1 y2 y3 y4 y5 z0 z1 z2
    obtain ⟨x0, x1, x2, x3, x4, x5, x6, x7, y0, y1, y2, y3, y4, y5, z0, z1, z2, _, _⟩ := ((unhide SR20).step b21).T.c
    clear eM b21
    go_wp2_with fail
    refine (finalEntries_any (.slice u4 na.fn.length p4) (.slice u5 na.fv.length p5) na.fn na.fv w21 ((unhide SR20).step (unhide HB21)).A.2.2.2.1 ((unhide SR20).step (unhide HB21)).A.2.2.2.2 ((unhide SR20).step (unhide HB21)).o2 l2).mono ?_
    rintro e w22 ⟨gF, nF, cF, rfl, eF, b22⟩
    have bb22 : Below w20.heap.size w20 w22 := (unhide HB21).trans (b22.mono (unhide HB21).size)
    have HB := hide bb22
    have SR22 := hide ((unhide SR20).step bb22)
    have eM22 : EntsAt 3 mCells w20.heap.size w22.heap.size w22 (.slice (some ⟨gM, 0, none⟩) nM cM) (entsTo na.mn (mf na.ms vsa) na.mn.length) := ((unhide HEM).same (Same.below b22 (Nat.le_refl _))).mono (Nat.le_refl _) b22.size
    have eF22 : EntsAt 2 fCells w20.heap.size w22.heap.size w22 (.slice (some ⟨gF, 0, none⟩) nF cF) (entsTo na.fn (ff na.fv) na.fn.length) := eF.mono (unhide HB21).size (Nat.le_refl _)
    have HNM := hide (ents_len eM22)
    have HNF := hide (ents_len eF22)
    have EM22 := hide eM22
    have EF22 := hide eF22
    have RD := hide (And.intro (readable_ents (ss := na.mn) (zs := na.ms) (unhide SR20).gs na.mn.length) (readable_ents (ss := nb.mn) (zs := nb.ms) (unhide SR20).hs nb.mn.length))
    clear x0 x1 x2 x3 x4 x5 x6 x7 y0 y1 y2 y3 y4 y5 z0 z1 z2
    clear HEM HB21 eM22 eF22 eF b22 bb22
    have hPS2 : PS < w22.heap.size := Nat.lt_of_lt_of_le hPl (unhide HB).size
    have hcase := unhide HCASE
    clear HCASE
    rcases unhide OUT with ⟨hold, hgot, mo, fo, hSn⟩ | ⟨hs1, hrs, hgot, mo, fo, hSn⟩ | ⟨hs1, hrs, hgot, mo, fo, pa, pn, pc, hSn, hKp⟩
    · clear hcase
      subst hgot
      have sn22 := hSn.step (unhide HB)
      have sr22 := unhide SR22
      have c8 : S8 PS w.heap.size 0 6 7 (.int .u64 r) (.map mo) (.map fo) (.string sn) (.int .u64 sv) (.int .u64 r) (.string sn) (.int .u64 sv) w22.drew := (⟨sn22.cells.1, sn22.cells.2.1, sn22.cells.2.2.1, sn22.cells.2.2.2.1, sn22.cells.2.2.2.2, sr22.T.x.cell 0, sr22.T.x.cell 6, sr22.T.x.cell 7⟩ : S8 PS w.heap.size 0 6 7 (.int .u64 r) (.map mo) (.map fo) (.string sn) (.int .u64 sv) (.int .u64 r) (.string sn) (.int .u64 sv) w22)
      have snd := sn22.step (Below.refl _ _).drew
      have hH : W0.heap.size ≤ w22.heap.size := sr22.o2
      have rd : Readable W0.heap.size w22.drew (entsTo na.mn (mf na.ms vsa) na.mn.length) := (unhide RD).1.same (Same.below (unhide HB).drew (unhide SR20).o2)
      have k26 := snd.markers (v := .slice (some ⟨gM, 0, none⟩) nM cM) ((unhide EM22).same (w' := w22.drew) (Same.refl _ _ _)) (Nat.le_refl _) rd hH
      have k27 : ∀ w1, Below w22.drew.heap.size w22.drew w1 → Calls Try.prog 27 #[.map fo, .slice (some ⟨gF, 0, none⟩) nF cF] w1 fun e w' => e = .returned (.bool true) ∧ Below w1.heap.size w1 w' := fun w1 b => (snd.step b).finals (((unhide EF22).same (w' := w22.drew) (Same.refl _ _ _)).same (w' := w1) (Same.below (lo := w20.heap.size) (hi := w22.heap.size) b (Nat.le_refl _))) b.size
      have C8 := hide c8
      have K26 := hide k26
      have K27 := hide k27
      have FIN := hide sr22.below
      obtain ⟨x0, x1, x2, x3, x4, x5, x6, x7, y0, y1, y2, y3, y4, y5, z0, z1, z2, _, _⟩ := sr22.T.c
      clear sn22 sr22 c8 snd rd k26 k27 hSn OUT SR20 SR22 EM22 EF22 RD HNM HNF HB
      go_upto_region 14 with fail
      go_cut [96] from 86 to 96 (fun c wx => c = .bool true ∧ wx = w22)
      case first =>
        by_cases hs0 : s = 0
        · subst hs0
          go_wp2_with fail
          go_meet
          case rel => exact ⟨rfl, rfl⟩
        · have hs2 : (s == 0) = false := by simpa using hs0
          have hs3 : s < r := by omega
          go_wp2_with fail
          go_meet
          case rel => exact ⟨rfl, rfl⟩
      case rest =>
        obtain ⟨rfl, rfl⟩ := hcut
        go_wp2_with fail
        go_region_held3 (fun w' => w'.cell? ⟨PS, 0, none⟩ = some (.int .u64 r) ∧ w'.cell? ⟨PS, 1, none⟩ = some (.map mo) ∧ w'.cell? ⟨PS, 2, none⟩ = some (.map fo) ∧ w'.cell? ⟨PS, 3, none⟩ = some (.string sn) ∧ w'.cell? ⟨PS, 4, none⟩ = some (.int .u64 sv) ∧ w'.cell? ⟨w.heap.size, 0, none⟩ = some (.int .u64 r) ∧ w'.cell? ⟨w.heap.size, 6, none⟩ = some (.string sn) ∧ w'.cell? ⟨w.heap.size, 7, none⟩ = some (.int .u64 sv)) (first | with_reducible exact unhide C8 | with_reducible assumption | with_reducible exact S8.step (p := PS) (q := w.heap.size) (j0 := 0) (j1 := 6) (j2 := 7) (c0 := .int .u64 r) (c1 := .map mo) (c2 := .map fo) (c3 := .string sn) (c4 := .int .u64 sv) (d0 := .int .u64 r) (d1 := .string sn) (d2 := .int .u64 sv) (by assumption) (by assumption)) (first | (go_at_call 26; refine (unhide K26).mono ?_; rintro e w23 ⟨rfl, b23⟩) | (go_at_call 27; refine (unhide K27 _ b23).mono ?_; rintro e w24 ⟨rfl, b24⟩))
        have FIN2 := hide ((unhide FIN).drew.trans ((b23.trans (b24.mono b23.size)).mono (unhide FIN).size))
        clear b23 b24 K26 K27 C8 FIN
        go_wp2
        go_ret
        exact ⟨rfl, unhide FIN2⟩
    · omega
    · omega

end Go.Proofs.Qxb6601448a
