/- The law FnJoinWholeAnswer, walked: news of a later round. -/
import Derived.Test.Qxb6601448aWPack
import Derived.Test.Qxb6601448aJoinPre
import Derived.Test.Qxb6601448aZz15
import Derived.Deep.Cut
import Derived.Deep.CutRange
namespace Go.Proofs.Qxb6601448a
open Go.RowKit
open Go.Maps (has IsMap)
set_option linter.unusedVariables false

set_option maxRecDepth 100000 in
set_option maxHeartbeats 8000000 in
theorem joinWhole_later (r s sv : Int) (sn nm : ByteArray) (a1 a2 a3 a4 a5 b1 b2 b3 b4 b5 vp ve : Value) (q1 q2 : Int) (na nb : News) (pl es : List ByteArray) (w : World) {lo hi : Nat} (ha : NewsAt lo hi w a1 a2 a3 a4 a5 na) (hb : NewsAt lo hi w b1 b2 b3 b4 b5 nb) (hp : StrsAt lo hi w vp pl) (he : StrsAt lo hi w ve es) (hsn : sn.size ≤ 140737488351232) (hnm : nm.size ≤ 140737488351232) (hh : hi ≤ w.heap.size) (hr : 0 ≤ r) (hs : 0 ≤ s) (hcase : 0 < s ∧ r < s) :
    Calls Try.prog 4 #[Value.agg #[.int .u64 r, a1, a2, a3, a4, a5, .string sn, .int .u64 sv], .agg #[.int .u64 s, b1, b2, b3, b4, b5], .agg #[.string nm, vp, ve], .int .u64 q1, .int .u64 q2] w fun e w' => e = .returned (.bool true) ∧ Below w.heap.size w w' := by
  have HCASE := hide hcase
  clear hcase
  have T0 := Trio.start w r s sv sn nm a1 a2 a3 a4 a5 b1 b2 b3 b4 b5 vp ve
  have kz : Calls Try.prog 15 _ _ _ := zz15 r s sv q1 q2 sn nm a1 a2 a3 a4 a5 b1 b2 b3 b4 b5 vp ve na nb pl es _ (ha.same (T0.same hh)) (hb.same (T0.same hh)) (hp.same (T0.same hh)) (he.same (T0.same hh)) hsn hnm (by have := T0.size; omega)
  have KZ := hide kz
  have HT0 := hide T0
  have hsn' : sn.size ≤ maxLen := by unfold maxLen; omega
  have hnm' : nm.size ≤ maxLen := by unfold maxLen; omega
  clear kz T0
  go_enter Try.func4, Try.ntmps4
  go_wp2_with fail
  refine (unhide KZ).mono ?_
  rintro e w4 ⟨⟨b, rfl⟩, hb4⟩
  have T4 := (unhide HT0).step hb4
  clear KZ HT0 hb4
  cases b with
  | false =>
    go_wp2
    go_ret
    exact ⟨rfl, T4.below⟩
  | true =>
    have C4 : TrioC w r s sv sn nm a1 a2 a3 a4 a5 b1 b2 b3 b4 b5 vp ve w4.drew := (T4.step (Below.refl _ _).drew).c
    have kA : ∀ w1, TrioC w r s sv sn nm a1 a2 a3 a4 a5 b1 b2 b3 b4 b5 vp ve w1 → Calls Try.prog 16 #[.agg #[.int .u64 r, a1, a2, a3, a4, a5, .string sn, .int .u64 sv]] w1 fun e w' => (∃ z, e = .returned (.int .i64 z)) ∧ Below w1.heap.size w1 w' := fun w1 hS => bytesOfSnap_any r sv sn a1 a2 a3 a4 a5 na w1 hsn' (ha.same (Same.below hS.src.1 hh)) (by have := hS.src.2; omega)
    have kB : ∀ w1, TrioC w r s sv sn nm a1 a2 a3 a4 a5 b1 b2 b3 b4 b5 vp ve w1 → Calls Try.prog 10 #[.agg #[.int .u64 s, b1, b2, b3, b4, b5]] w1 fun e w' => (∃ z, e = .returned (.int .i64 z)) ∧ Below w1.heap.size w1 w' := fun w1 hS => bytesOfNews_any s b1 b2 b3 b4 b5 nb w1 (hb.same (Same.below hS.src.1 hh)) (by have := hS.src.2; omega)
    have kC : ∀ w1, TrioC w r s sv sn nm a1 a2 a3 a4 a5 b1 b2 b3 b4 b5 vp ve w1 → Calls Try.prog 17 #[.agg #[.string nm, vp, ve]] w1 fun e w' => (∃ z, e = .returned (.int .i64 z)) ∧ Below w1.heap.size w1 w' := fun w1 hS => bytesOfSite_any nm vp ve pl es w1 hnm' (hp.same (Same.below hS.src.1 hh)) (he.same (Same.below hS.src.1 hh)) (by have := hS.src.2; omega)
    have KA := hide kA
    have KB := hide kB
    have KC := hide kC
    have C4' := hide C4
    have HT4 := hide T4
    clear kA kB kC C4 T4
    go_wp2_with fail
    go_region_held3 (fun w' => w'.cell? ⟨w.heap.size, 0, none⟩ = some (.int .u64 r) ∧ w'.cell? ⟨w.heap.size, 1, none⟩ = some a1 ∧ w'.cell? ⟨w.heap.size, 2, none⟩ = some a2 ∧ w'.cell? ⟨w.heap.size, 3, none⟩ = some a3 ∧ w'.cell? ⟨w.heap.size, 4, none⟩ = some a4 ∧ w'.cell? ⟨w.heap.size, 5, none⟩ = some a5 ∧ w'.cell? ⟨w.heap.size, 6, none⟩ = some (.string sn) ∧ w'.cell? ⟨w.heap.size, 7, none⟩ = some (.int .u64 sv) ∧ w'.cell? ⟨w.heap.size + 1, 0, none⟩ = some (.int .u64 s) ∧ w'.cell? ⟨w.heap.size + 1, 1, none⟩ = some b1 ∧ w'.cell? ⟨w.heap.size + 1, 2, none⟩ = some b2 ∧ w'.cell? ⟨w.heap.size + 1, 3, none⟩ = some b3 ∧ w'.cell? ⟨w.heap.size + 1, 4, none⟩ = some b4 ∧ w'.cell? ⟨w.heap.size + 1, 5, none⟩ = some b5 ∧ w'.cell? ⟨w.heap.size + 2, 0, none⟩ = some (.string nm) ∧ w'.cell? ⟨w.heap.size + 2, 1, none⟩ = some vp ∧ w'.cell? ⟨w.heap.size + 2, 2, none⟩ = some ve ∧ w.heap.size + 3 ≤ w'.heap.size ∧ Below w.heap.size w w') (first | with_reducible exact unhide C4' | with_reducible exact TrioC.step (by assumption) (by assumption) | assumption) (first | (go_at_call 9; refine (addB_any _ _ _).mono ?_; rintro e w' ⟨⟨z, rfl⟩, hwz⟩; obtain rfl := hwz.symm) | (go_at_call 16; refine (unhide KA _ ?_).mono ?_; assumption; rintro e w5 ⟨⟨z5, rfl⟩, bA⟩) | (go_at_call 10; refine (unhide KB _ ?_).mono ?_; assumption; rintro e w6 ⟨⟨z6, rfl⟩, bB⟩) | (go_at_call 17; refine (unhide KC _ ?_).mono ?_; assumption; rintro e w7 ⟨⟨z7, rfl⟩, bC⟩))
    have T7 := ((((unhide HT4).step (Below.refl _ _).drew).step bA).step bB).step bC
    clear KA KB KC C4' HT4 bA bB bC
    go_wp2_with fail
    · go_ret
      exact ⟨rfl, T7.below⟩
    obtain ⟨x0, x1, x2, x3, x4, x5, x6, x7, y0, y1, y2, y3, y4, y5, z0, z1, z2, _, _⟩ := T7.c
    cases hfa : decide (na.mn.length ≤ 4096 ∧ na.fn.length ≤ 4096) with
    | false =>
      have HF := hide hfa
      clear hfa
      refine (countsFit_at r a1 a2 a3 a4 a5 na _ (ha.same (T7.same hh)) HF).mono ?_
      rintro e w8 ⟨rfl, b8⟩
      go_wp2
      go_ret
      exact ⟨rfl, (T7.step b8).below⟩
    | true =>
    have HFA := hide hfa
    clear hfa
    refine (countsFit_at r a1 a2 a3 a4 a5 na _ (ha.same (T7.same hh)) HFA).mono ?_
    rintro e w8 ⟨rfl, b8⟩
    have T8 := T7.step b8
    clear T7 b8 x0 x1 x2 x3 x4 x5 x6 x7 y0 y1 y2 y3 y4 y5 z0 z1 z2
    obtain ⟨x0, x1, x2, x3, x4, x5, x6, x7, y0, y1, y2, y3, y4, y5, z0, z1, z2, _, _⟩ := T8.c
    cases hfb : decide (nb.mn.length ≤ 4096 ∧ nb.fn.length ≤ 4096) with
    | false =>
      have HF := hide hfb
      clear hfb
      go_wp2_with fail
      refine (countsFit_at s b1 b2 b3 b4 b5 nb _ (hb.same (T8.same hh)) HF).mono ?_
      rintro e w9 ⟨rfl, b9⟩
      go_wp2
      go_ret
      exact ⟨rfl, (T8.step b9).below⟩
    | true =>
    have HFB := hide hfb
    clear hfb
    go_wp2_with fail
    refine (countsFit_at s b1 b2 b3 b4 b5 nb _ (hb.same (T8.same hh)) HFB).mono ?_
    rintro e w9 ⟨rfl, b9⟩
    have T9 := T8.step b9
    clear T8 b9 x0 x1 x2 x3 x4 x5 x6 x7 y0 y1 y2 y3 y4 y5 z0 z1 z2
    obtain ⟨x0, x1, x2, x3, x4, x5, x6, x7, y0, y1, y2, y3, y4, y5, z0, z1, z2, _, _⟩ := T9.c
    cases hfc : decide (pl.length ≤ 4096 ∧ es.length ≤ 4096) with
    | false =>
      have HF := hide hfc
      clear hfc
      go_wp2_with fail
      refine (siteFit_at nm vp ve pl es _ (hp.same (T9.same hh)) (he.same (T9.same hh)) HF).mono ?_
      rintro e w10 ⟨rfl, b10⟩
      go_wp2
      go_ret
      exact ⟨rfl, (T9.step b10).below⟩
    | true =>
    have HFC := hide hfc
    clear hfc
    go_wp2_with fail
    refine (siteFit_at nm vp ve pl es _ (hp.same (T9.same hh)) (he.same (T9.same hh)) HFC).mono ?_
    rintro e w10 ⟨rfl, b10⟩
    have T10 := T9.step b10
    clear T9 b10 x0 x1 x2 x3 x4 x5 x6 x7 y0 y1 y2 y3 y4 y5 z0 z1 z2
    obtain ⟨x0, x1, x2, x3, x4, x5, x6, x7, y0, y1, y2, y3, y4, y5, z0, z1, z2, _, _⟩ := T10.c
    go_wp2_with fail
    refine (copySnap_sh r sv sn a1 a2 a3 a4 a5 na _ (ha.same (T10.same hh)) (by have := T10.size; omega)).mono ?_
    rintro e w11 ⟨u1, p1, u2, p2, u3, p3, u4, p4, u5, p5, rfl, hA, b11⟩
    have T11 := T10.step b11
    have q10 := T10.size
    have q11 := b11.size
    clear x0 x1 x2 x3 x4 x5 x6 x7 y0 y1 y2 y3 y4 y5 z0 z1 z2
    obtain ⟨x0, x1, x2, x3, x4, x5, x6, x7, y0, y1, y2, y3, y4, y5, z0, z1, z2, _, _⟩ := T11.c
    have f0 := T11.x.free 0
    have f1 := T11.x.free 1
    have f2 := T11.x.free 2
    have f3 := T11.x.free 3
    have f4 := T11.x.free 4
    have f5 := T11.x.free 5
    have f6 := T11.x.free 6
    have f7 := T11.x.free 7
    have HT := hide (T11.setx (.slice u1 na.mn.length p1) (.slice u2 na.ms.length p2) (.slice u3 na.mp.length p3) (.slice u4 na.fn.length p4) (.slice u5 na.fv.length p5))
    have HA := hide ((hA.mono (lo' := w.heap.size + 3) (hi' := w11.heap.size) q10 (Nat.le_refl _)).same (eight_range (Same.refl _ _ _) (b := w.heap.size) (Or.inl (by omega)) (.int .u64 r) (.slice u1 na.mn.length p1) (.slice u2 na.ms.length p2) (.slice u3 na.mp.length p3) (.slice u4 na.fn.length p4) (.slice u5 na.fv.length p5) (.string sn) (.int .u64 sv)))
    clear T10 T11 hA b11 q11 q10
    go_wp2_with fail
    refine (copyNews_sh s b1 b2 b3 b4 b5 nb _ (hb.same ((unhide HT).same hh)) (by have := (unhide HT).size; omega)).mono ?_
    rintro e w12 ⟨v1, g1, v2, g2, v3, g3, v4, g4, v5, g5, rfl, hB, b12⟩
    have q11 := (unhide HT).size
    have T12 := (unhide HT).step b12
    have z12 := b12.size
    rw [eight_size] at z12 q11
    have hA12 := ((unhide HA).same (Same.below b12 (by rw [eight_size]; exact Nat.le_refl _))).mono (lo' := w.heap.size + 3) (hi' := w12.heap.size) (Nat.le_refl _) z12
    have hB12 := hB.mono (lo' := w.heap.size + 3) (hi' := w12.heap.size) (by rw [eight_size]; exact q11) (Nat.le_refl _)
    clear x0 x1 x2 x3 x4 x5 x6 x7 y0 y1 y2 y3 y4 y5 z0 z1 z2 f0 f1 f2 f3 f4 f5 f6 f7
    obtain ⟨x0, x1, x2, x3, x4, x5, x6, x7, y0, y1, y2, y3, y4, y5, z0, z1, z2, _, _⟩ := T12.c
    have f0 := T12.y.free 0
    have f1 := T12.y.free 1
    have f2 := T12.y.free 2
    have f3 := T12.y.free 3
    have f4 := T12.y.free 4
    have f5 := T12.y.free 5
    have HT2 := hide (T12.sety (.slice v1 nb.mn.length g1) (.slice v2 nb.ms.length g2) (.slice v3 nb.mp.length g3) (.slice v4 nb.fn.length g4) (.slice v5 nb.fv.length g5))
    have HA2 := hide (hA12.same (six_range (Same.refl _ _ _) (b := w.heap.size + 1) (Or.inl (by omega)) (.int .u64 s) (.slice v1 nb.mn.length g1) (.slice v2 nb.ms.length g2) (.slice v3 nb.mp.length g3) (.slice v4 nb.fn.length g4) (.slice v5 nb.fv.length g5)))
    have HB2 := hide (hB12.same (six_range (Same.refl _ _ _) (b := w.heap.size + 1) (Or.inl (by omega)) (.int .u64 s) (.slice v1 nb.mn.length g1) (.slice v2 nb.ms.length g2) (.slice v3 nb.mp.length g3) (.slice v4 nb.fn.length g4) (.slice v5 nb.fv.length g5)))
    clear HT HA T12 hA12 hB hB12 b12 z12 q11
    go_wp2_with fail
    refine (copySite_sh nm vp ve pl es _ (hp.same ((unhide HT2).same hh)) (he.same ((unhide HT2).same hh)) (by have := (unhide HT2).size; omega)).mono ?_
    rintro e w13 ⟨k1, h1, k2, h2, rfl, hP, hE, b13⟩
    have q12 := (unhide HT2).size
    have T13 := (unhide HT2).step b13
    have z13 := b13.size
    rw [six_size] at z13 q12
    have hA13 := ((unhide HA2).same (Same.below b13 (by rw [six_size]; exact Nat.le_refl _))).mono (lo' := w.heap.size + 3) (hi' := w13.heap.size) (Nat.le_refl _) z13
    have hB13 := ((unhide HB2).same (Same.below b13 (by rw [six_size]; exact Nat.le_refl _))).mono (lo' := w.heap.size + 3) (hi' := w13.heap.size) (Nat.le_refl _) z13
    have hP13 := hP.mono (lo' := w.heap.size + 3) (hi' := w13.heap.size) (by rw [six_size]; exact q12) (Nat.le_refl _)
    have hE13 := hE.mono (lo' := w.heap.size + 3) (hi' := w13.heap.size) (by rw [six_size]; exact q12) (Nat.le_refl _)
    clear x0 x1 x2 x3 x4 x5 x6 x7 y0 y1 y2 y3 y4 y5 z0 z1 z2 f0 f1 f2 f3 f4 f5
    obtain ⟨x0, x1, x2, x3, x4, x5, x6, x7, y0, y1, y2, y3, y4, y5, z0, z1, z2, _, _⟩ := T13.c
    have f0 := T13.z.free 0
    have f1 := T13.z.free 1
    have f2 := T13.z.free 2
    have hcol : ∃ W0, W0 = three w13 (w.heap.size + 2) (.string nm) (.slice k1 pl.length h1) (.slice k2 es.length h2) := ⟨_, rfl⟩
    obtain ⟨W0, hW0⟩ := hcol
    have HT3 := T13.setz (.slice k1 pl.length h1) (.slice k2 es.length h2)
    have HA3 := hA13.same (three_range (Same.refl _ _ _) (b := w.heap.size + 2) (Or.inl (by omega)) (.string nm) (.slice k1 pl.length h1) (.slice k2 es.length h2))
    have HB3 := hB13.same (three_range (Same.refl _ _ _) (b := w.heap.size + 2) (Or.inl (by omega)) (.string nm) (.slice k1 pl.length h1) (.slice k2 es.length h2))
    have HP3 := hP13.same (three_range (Same.refl _ _ _) (b := w.heap.size + 2) (Or.inl (by omega)) (.string nm) (.slice k1 pl.length h1) (.slice k2 es.length h2))
    have HE3 := hE13.same (three_range (Same.refl _ _ _) (b := w.heap.size + 2) (Or.inl (by omega)) (.string nm) (.slice k1 pl.length h1) (.slice k2 es.length h2))
    have hsz0 : W0.heap.size = w13.heap.size := by rw [hW0]; exact three_size _ _ _ _ _
    rw [← hW0, ← hsz0] at HA3 HB3 HP3 HE3
    rw [← hW0] at HT3
    have A3 := hide HA3
    have B3 := hide HB3
    have P3 := hide HP3
    have E3 := hide HE3
    have T3 := hide HT3
    have HW0 := hide hW0
    clear HT2 HA2 HB2 T13 hA13 hB13 hP hE hP13 hE13 b13 z13 q12 HA3 HB3 HP3 HE3 HT3 hsz0 hW0 ha hb hp he
    obtain ⟨vsa, ga3, ga3s⟩ := (unhide A3).2.2.1
    obtain ⟨vsb, gb3, gb3s⟩ := (unhide B3).2.2.1
    have GA := hide (And.intro ga3 ga3s)
    have GB := hide (And.intro gb3 gb3s)
    clear ga3 ga3s gb3 gb3s
    go_wp2_with fail
    refine (at_world (unhide HW0) (toSnap_at r sv sn (.slice u1 na.mn.length p1) (.slice u2 na.ms.length p2) (.slice u3 na.mp.length p3) (.slice u4 na.fn.length p4) (.slice u5 na.fv.length p5) na vsa W0 (unhide A3) (unhide GA).1 (unhide GA).2 (Nat.le_refl _))).mono ?_
    rintro e w14 ⟨PS, m1, m2, rfl, ⟨hPS, hK⟩, M1, M2, hf, hd, b14⟩
    have T14 := (unhide T3).step b14
    have sb14 : Same (w.heap.size + 3) W0.heap.size W0 w14 := Same.below b14 (Nat.le_refl _)
    have SR14 : Src w w14 W0.heap.size r s sv sn nm (.slice u1 na.mn.length p1) (.slice u2 na.ms.length p2) (.slice u3 na.mp.length p3) (.slice u4 na.fn.length p4) (.slice u5 na.fv.length p5) (.slice v1 nb.mn.length g1) (.slice v2 nb.ms.length g2) (.slice v3 nb.mp.length g3) (.slice v4 nb.fn.length g4) (.slice v5 nb.fv.length g5) (.slice k1 pl.length h1) (.slice k2 es.length h2) na nb vsa vsb pl es := ⟨T14, (unhide A3).same sb14, (unhide GA).1.same sb14, (unhide GA).2.same sb14, (unhide B3).same sb14, (unhide GB).1.same sb14, (unhide GB).2.same sb14, (unhide P3).same sb14, (unhide E3).same sb14, (unhide T3).size, b14.size⟩
    obtain ⟨l1, l2⟩ := fit_le HFA
    obtain ⟨l3, l4⟩ := fit_le HFB
    obtain ⟨l5, l6⟩ := fit_le HFC
    have SRd := SR14.step (Below.refl _ _).drew
    have C14 := hide SRd.sb
    have kN := toNews_vs s (.slice v1 nb.mn.length g1) (.slice v2 nb.ms.length g2) (.slice v3 nb.mp.length g3) (.slice v4 nb.fn.length g4) (.slice v5 nb.fv.length g5) false nb vsb w14.drew SRd.B SRd.gb SRd.hs SRd.o2
    have kJ : ∀ m5 m6 w15 w16, MapIs mkR w14.drew.heap.size w15.heap.size w15 m5 nb.mn.length (mapOf (marks nb.mn nb.ms vsb)) → MapIs fiR w14.drew.heap.size w15.heap.size w15 m6 nb.fn.length (mapOf (fins nb.fn nb.fv)) → Below w14.drew.heap.size w14.drew w15 → Below w15.heap.size w15 w16 → Calls Try.prog 22 #[.pointer (some ⟨PS, 0, none⟩), .agg #[.int .u64 s, .map m5, .map m6], .agg #[.string nm, .slice k1 pl.length h1, .slice k2 es.length h2], .int .u64 q1, .int .u64 q2] w16 fun e w' => ∃ got, e = .returned (.bool got) ∧ SB (w.heap.size + 1) (w.heap.size + 2) (.int .u64 s) (.slice v1 nb.mn.length g1) (.slice v2 nb.ms.length g2) (.slice v3 nb.mp.length g3) (.slice v4 nb.fn.length g4) (.slice v5 nb.fv.length g5) (.string nm) (.slice k1 pl.length h1) (.slice k2 es.length h2) w' ∧ Src w w' W0.heap.size r s sv sn nm (.slice u1 na.mn.length p1) (.slice u2 na.ms.length p2) (.slice u3 na.mp.length p3) (.slice u4 na.fn.length p4) (.slice u5 na.fv.length p5) (.slice v1 nb.mn.length g1) (.slice v2 nb.ms.length g2) (.slice v3 nb.mp.length g3) (.slice v4 nb.fn.length g4) (.slice v5 nb.fv.length g5) (.slice k1 pl.length h1) (.slice k2 es.length h2) na nb vsa vsb pl es ∧ PS < w'.heap.size ∧ Outcome w' PS r s sv q1 q2 sn nm pl es (entsTo na.mn (mf na.ms vsa) na.mn.length) (entsTo nb.mn (mf nb.ms vsb) nb.mn.length) (entsTo na.fn (ff na.fv) na.fn.length) (entsTo nb.fn (ff nb.fv) nb.fn.length) got := fun m5 m6 w15 w16 M5 M6 b15 b16 =>
      join_out PS q1 q2 m1 m2 m5 m6 k1 k2 pl.length h1 es.length h2 w14.drew w15 w16 SRd hr hs hnm' hK hf hd hPS M1 M2 M5 M6 b15 b16 l1 l2 l3 l4
    have KN := hide kN
    have KJ := hide kJ
    clear x0 x1 x2 x3 x4 x5 x6 x7 y0 y1 y2 y3 y4 y5 z0 z1 z2 f0 f1 f2
    clear A3 B3 P3 E3 GA GB T3 HW0 T14 sb14 SR14 SRd kN kJ hK M1 M2 hf hd hPS b14 HFA HFB HFC hsn hnm
    go_wp2_with fail
    go_region_held3 (fun w' => w'.cell? ⟨w.heap.size + 1, 0, none⟩ = some (.int .u64 s) ∧ w'.cell? ⟨w.heap.size + 1, 1, none⟩ = some (.slice v1 nb.mn.length g1) ∧ w'.cell? ⟨w.heap.size + 1, 2, none⟩ = some (.slice v2 nb.ms.length g2) ∧ w'.cell? ⟨w.heap.size + 1, 3, none⟩ = some (.slice v3 nb.mp.length g3) ∧ w'.cell? ⟨w.heap.size + 1, 4, none⟩ = some (.slice v4 nb.fn.length g4) ∧ w'.cell? ⟨w.heap.size + 1, 5, none⟩ = some (.slice v5 nb.fv.length g5) ∧ w'.cell? ⟨w.heap.size + 2, 0, none⟩ = some (.string nm) ∧ w'.cell? ⟨w.heap.size + 2, 1, none⟩ = some (.slice k1 pl.length h1) ∧ w'.cell? ⟨w.heap.size + 2, 2, none⟩ = some (.slice k2 es.length h2)) (first | with_reducible exact unhide C14 | with_reducible assumption | with_reducible exact SB.step (b6 := w.heap.size + 1) (b7 := w.heap.size + 2) (c0 := .int .u64 s) (c1 := .slice v1 nb.mn.length g1) (c2 := .slice v2 nb.ms.length g2) (c3 := .slice v3 nb.mp.length g3) (c4 := .slice v4 nb.fn.length g4) (c5 := .slice v5 nb.fv.length g5) (d0 := .string nm) (d1 := .slice k1 pl.length h1) (d2 := .slice k2 es.length h2) (by assumption) (by assumption) | with_reducible exact SB.alloc (b6 := w.heap.size + 1) (b7 := w.heap.size + 2) (c0 := .int .u64 s) (c1 := .slice v1 nb.mn.length g1) (c2 := .slice v2 nb.ms.length g2) (c3 := .slice v3 nb.mp.length g3) (c4 := .slice v4 nb.fn.length g4) (c5 := .slice v5 nb.fv.length g5) (d0 := .string nm) (d1 := .slice k1 pl.length h1) (d2 := .slice k2 es.length h2) (by assumption) _) (first | (go_at_call 13; refine (unhide KN).mono ?_; rintro e w15 ⟨m5, m6, rfl, M5, M6, _, b15⟩) | (go_at_call 23; refine (toSite_any nm k1 k2 pl.length h1 es.length h2 _).mono ?_; rintro e w16 ⟨rfl, b16⟩) | (go_at_call 22; refine (unhide KJ m5 m6 _ _ M5 M6 b15 b16).mono ?_; rintro e w20 ⟨got, rfl, hSB, hSR, hPl, hOut⟩))
    rename_i hHeld
    clear hHeld hSB M5 M6 b15 b16 KN KJ C14
    have SR20 := hide hSR
    have OUT := hide hOut
    obtain ⟨x0, x1, x2, x3, x4, x5, x6, x7, y0, y1, y2, y3, y4, y5, z0, z1, z2, _, _⟩ := hSR.T.c
    clear hSR hOut
    go_wp2_with fail
    refine (markerEntries_any (.slice u1 na.mn.length p1) (.slice u2 na.ms.length p2) (.slice u3 na.mp.length p3) na.mn na.ms vsa w20 (unhide SR20).A.1 (unhide SR20).A.2.1 (unhide SR20).ga (srcA_shape (unhide SR20).gs) (unhide SR20).o2 l1).mono ?_
    rintro e w21 ⟨gM, nM, cM, rfl, eM, b21⟩
    have HEM := hide eM
    have HB21 := hide b21
    clear x0 x1 x2 x3 x4 x5 x6 x7 y0 y1 y2 y3 y4 y5 z0 z1 z2
    obtain ⟨x0, x1, x2, x3, x4, x5, x6, x7, y0, y1, y2, y3, y4, y5, z0, z1, z2, _, _⟩ := ((unhide SR20).step b21).T.c
    clear eM b21
    go_wp2_with fail
    refine (finalEntries_any (.slice u4 na.fn.length p4) (.slice u5 na.fv.length p5) na.fn na.fv w21 ((unhide SR20).step (unhide HB21)).A.2.2.2.1 ((unhide SR20).step (unhide HB21)).A.2.2.2.2 ((unhide SR20).step (unhide HB21)).o2 l2).mono ?_
    rintro e w22 ⟨gF, nF, cF, rfl, eF, b22⟩
    have bb22 : Below w20.heap.size w20 w22 := (unhide HB21).trans (b22.mono (unhide HB21).size)
    have HB := hide bb22
    have SR22 := hide ((unhide SR20).step bb22)
    have eM22 : EntsAt 3 mCells w20.heap.size w22.heap.size w22 (.slice (some ⟨gM, 0, none⟩) nM cM) (entsTo na.mn (mf na.ms vsa) na.mn.length) := ((unhide HEM).same (Same.below b22 (Nat.le_refl _))).mono (Nat.le_refl _) b22.size
    have eF22 : EntsAt 2 fCells w20.heap.size w22.heap.size w22 (.slice (some ⟨gF, 0, none⟩) nF cF) (entsTo na.fn (ff na.fv) na.fn.length) := eF.mono (unhide HB21).size (Nat.le_refl _)
    have HNM := hide (ents_len eM22)
    have HNF := hide (ents_len eF22)
    have EM22 := hide eM22
    have EF22 := hide eF22
    have RD := hide (And.intro (readable_ents (ss := na.mn) (zs := na.ms) (unhide SR20).gs na.mn.length) (readable_ents (ss := nb.mn) (zs := nb.ms) (unhide SR20).hs nb.mn.length))
    clear x0 x1 x2 x3 x4 x5 x6 x7 y0 y1 y2 y3 y4 y5 z0 z1 z2
    clear HEM HB21 eM22 eF22 eF b22 bb22
    have hPS2 : PS < w22.heap.size := Nat.lt_of_lt_of_le hPl (unhide HB).size
    have hcase := unhide HCASE
    clear HCASE
    rcases unhide OUT with ⟨hold, hgot, mo, fo, hSn⟩ | ⟨hs1, hrs, hgot, mo, fo, hSn⟩ | ⟨hs1, hrs, hgot, mo, fo, pa, pn, pc, hSn, hKp⟩
    · omega
    · omega
    · have hs2 : (s == 0) = false := by simp; omega
      have hge : ¬ s < r := by omega
      have hge' : decide (s < r) = false := by simpa using hge
      have hlt' : decide (r < s) = true := by simpa using hrs
      subst hgot
      clear hcase
      have srd := (unhide SR22).step (Below.refl _ _).drew
      have CB := hide srd.sb
      have kP := modelPeers_any (.slice k1 pl.length h1) (.slice k2 es.length h2) pl es w22.drew srd.P srd.E srd.o2 l5
      have KP := hide kP
      obtain ⟨x0, x1, x2, x3, x4, x5, x6, x7, y0, y1, y2, y3, y4, y5, z0, z1, z2, _, _⟩ := (unhide SR22).T.c
      clear srd kP
      go_wp2_with fail
      go_region_held3 (fun w' => w'.cell? ⟨w.heap.size + 1, 0, none⟩ = some (.int .u64 s) ∧ w'.cell? ⟨w.heap.size + 1, 1, none⟩ = some (.slice v1 nb.mn.length g1) ∧ w'.cell? ⟨w.heap.size + 1, 2, none⟩ = some (.slice v2 nb.ms.length g2) ∧ w'.cell? ⟨w.heap.size + 1, 3, none⟩ = some (.slice v3 nb.mp.length g3) ∧ w'.cell? ⟨w.heap.size + 1, 4, none⟩ = some (.slice v4 nb.fn.length g4) ∧ w'.cell? ⟨w.heap.size + 1, 5, none⟩ = some (.slice v5 nb.fv.length g5) ∧ w'.cell? ⟨w.heap.size + 2, 0, none⟩ = some (.string nm) ∧ w'.cell? ⟨w.heap.size + 2, 1, none⟩ = some (.slice k1 pl.length h1) ∧ w'.cell? ⟨w.heap.size + 2, 2, none⟩ = some (.slice k2 es.length h2)) (first | with_reducible exact unhide CB | with_reducible assumption | with_reducible exact SB.step (b6 := w.heap.size + 1) (b7 := w.heap.size + 2) (c0 := .int .u64 s) (c1 := .slice v1 nb.mn.length g1) (c2 := .slice v2 nb.ms.length g2) (c3 := .slice v3 nb.mp.length g3) (c4 := .slice v4 nb.fn.length g4) (c5 := .slice v5 nb.fv.length g5) (d0 := .string nm) (d1 := .slice k1 pl.length h1) (d2 := .slice k2 es.length h2) (by assumption) (by assumption) | with_reducible exact SB.alloc (b6 := w.heap.size + 1) (b7 := w.heap.size + 2) (c0 := .int .u64 s) (c1 := .slice v1 nb.mn.length g1) (c2 := .slice v2 nb.ms.length g2) (c3 := .slice v3 nb.mp.length g3) (c4 := .slice v4 nb.fn.length g4) (c5 := .slice v5 nb.fv.length g5) (d0 := .string nm) (d1 := .slice k1 pl.length h1) (d2 := .slice k2 es.length h2) (by assumption) _) (first | (go_at_call 28; refine (unhide KP).mono ?_; rintro e w23 ⟨ma, mn, mc, rfl, eP, b23⟩))
      rename_i hHeld
      clear hHeld KP CB
      go_wp2_with fail
      obtain ⟨w25, hw25⟩ : ∃ w25, w25 = (w23.alloc (.cells #[.string nm, .int .u64 q1, .slice ma mn mc] 64)).alloc (.cells #[] 95) := ⟨_, rfl⟩
      rw [← hw25]
      have b25 : Below w23.heap.size w23 w25 := by rw [hw25]; exact ((Below.refl _ _).alloc (Nat.le_refl _) _).alloc (by simp) _
      have z25 : w23.heap.size + 2 ≤ w25.heap.size := by rw [hw25]; simp
      have bb25 : Below w22.drew.heap.size w22.drew w25 := b23.trans (b25.mono b23.size)
      have z23 : w22.heap.size ≤ w23.heap.size := b23.size
      have hb20 : Below w20.heap.size w20 w25 := (unhide HB).drew.trans (bb25.mono (unhide HB).size)
      have SRW := hide (((unhide SR22).step (Below.refl _ _).drew).step bb25)
      have SNW := hide (hSn.step hb20)
      have hPSW : PS < w25.heap.size := Nat.lt_of_lt_of_le hPl hb20.size
      have EBM : Hid (EntsAt 3 mCells w22.heap.size w25.heap.size w25 (.slice (some ⟨w23.heap.size, 0, none⟩) 1 1) [(nm, q1, ma, mn, mc)]) := by
        have h1 : EntsAt 3 mCells w22.heap.size (w23.heap.size + 1) (w23.alloc (.cells #[.string nm, .int .u64 q1, .slice ma mn mc] 64)) (.slice (some ⟨w23.heap.size, 0, none⟩) 1 1) [(nm, q1, ma, mn, mc)] := ents_one hnm' z23 (Nat.lt_succ_self _)
        have h2 := (h1.same ((Same.refl _ _ _).alloc (.cells #[] 95) (by simp))).mono (Nat.le_refl w22.heap.size) (Nat.le_trans (Nat.le_succ (w23.heap.size + 1)) z25)
        rw [← hw25] at h2
        exact h2
      have EBF : Hid (EntsAt 2 fCells w22.heap.size w25.heap.size w25 (.slice (some ⟨w23.heap.size + 1, 0, none⟩) 0 0) ([] : List (ByteArray × Int))) := ents_none (by omega) (by omega)
      have KP2 : Hid (StrsAt 0 w25.heap.size w25 (.slice ma mn mc) (kept pl es)) := (eP.same (Same.below b25 (Nat.le_refl _))).mono (Nat.zero_le _) b25.size
      have KP1 : Hid (StrsAt 0 w25.heap.size w25 (.slice pa pn pc) (kept pl es)) := (hKp.same (Same.below hb20 (Nat.le_refl _))).mono (Nat.le_refl _) hb20.size
      have RDW := hide ((unhide RD).2.same (Same.below hb20 (unhide SR20).o2))
      have hW05 : Hid (W0.heap.size ≤ w25.heap.size) := (unhide SRW).o2
      have NE : Hid (Nat.succ (w23.heap.size + 1) ≤ w25.heap.size) := z25
      obtain ⟨x0, x1, x2, x3, x4, x5, x6, x7, y0, y1, y2, y3, y4, y5, z0, z1, z2, _, _⟩ := (unhide SRW).T.c
      clear hw25 b25 z25 bb25 z23 hb20 eP b23 hSn hKp OUT SR20 SR22 EM22 EF22 RD HB HNM HNF
      have srd := (unhide SRW).step (Below.refl _ _).drew
      have CB := hide srd.sb
      have kI := markerEntries_any (.slice v1 nb.mn.length g1) (.slice v2 nb.ms.length g2) (.slice v3 nb.mp.length g3) nb.mn nb.ms vsb w25.drew srd.B.1 srd.B.2.1 srd.gb (srcA_shape srd.hs) srd.o2 l3
      have kG : ∀ gI nI cI w26, EntsAt 3 mCells w25.drew.heap.size w26.heap.size w26 (.slice (some ⟨gI, 0, none⟩) nI cI) (entsTo nb.mn (mf nb.ms vsb) nb.mn.length) → Below w25.drew.heap.size w25.drew w26 → Calls Try.prog 29 #[(.slice (some ⟨w23.heap.size, 0, none⟩) 1 1), .slice (some ⟨gI, 0, none⟩) nI cI, .slice k2 es.length h2] w26 fun e w' => ∃ g n c, e = .returned (.slice (some ⟨g, 0, none⟩) n c) ∧ EntsAt 3 mCells w26.heap.size w'.heap.size w' (.slice (some ⟨g, 0, none⟩) n c) ([(nm, q1, ma, mn, mc)] ++ freshE es [(nm, q1, ma, mn, mc)] (entsTo nb.mn (mf nb.ms vsb) nb.mn.length)) ∧ Below w26.heap.size w26 w' := fun gI nI cI w26 eI b26 =>
        mergeMarkers_any (.slice (some ⟨w23.heap.size, 0, none⟩) 1 1) (.slice (some ⟨gI, 0, none⟩) nI cI) (.slice k2 es.length h2) [(nm, q1, ma, mn, mc)] (entsTo nb.mn (mf nb.ms vsb) nb.mn.length) es w26 ((((unhide EBM).same (w' := w25.drew) (Same.refl _ _ _)).same (Same.below b26 (Nat.le_refl _))).mono (Nat.zero_le _) b26.size) (eI.mono (Nat.zero_le _) (Nat.le_refl _)) ((srd.step b26).E.mono (Nat.zero_le _) (srd.step b26).o2) (Nat.le_refl _) (by simp) (Nat.le_trans (entsTo_len _ _ _) l3)
      have KI := hide kI
      have KG := hide kG
      have SRD := hide srd
      clear srd kI kG
      skip
      go_region_held3 (fun w' => w'.cell? ⟨w.heap.size + 1, 0, none⟩ = some (.int .u64 s) ∧ w'.cell? ⟨w.heap.size + 1, 1, none⟩ = some (.slice v1 nb.mn.length g1) ∧ w'.cell? ⟨w.heap.size + 1, 2, none⟩ = some (.slice v2 nb.ms.length g2) ∧ w'.cell? ⟨w.heap.size + 1, 3, none⟩ = some (.slice v3 nb.mp.length g3) ∧ w'.cell? ⟨w.heap.size + 1, 4, none⟩ = some (.slice v4 nb.fn.length g4) ∧ w'.cell? ⟨w.heap.size + 1, 5, none⟩ = some (.slice v5 nb.fv.length g5) ∧ w'.cell? ⟨w.heap.size + 2, 0, none⟩ = some (.string nm) ∧ w'.cell? ⟨w.heap.size + 2, 1, none⟩ = some (.slice k1 pl.length h1) ∧ w'.cell? ⟨w.heap.size + 2, 2, none⟩ = some (.slice k2 es.length h2)) (first | with_reducible exact unhide CB | with_reducible assumption | with_reducible exact SB.step (b6 := w.heap.size + 1) (b7 := w.heap.size + 2) (c0 := .int .u64 s) (c1 := .slice v1 nb.mn.length g1) (c2 := .slice v2 nb.ms.length g2) (c3 := .slice v3 nb.mp.length g3) (c4 := .slice v4 nb.fn.length g4) (c5 := .slice v5 nb.fv.length g5) (d0 := .string nm) (d1 := .slice k1 pl.length h1) (d2 := .slice k2 es.length h2) (by assumption) (by assumption) | with_reducible exact SB.alloc (b6 := w.heap.size + 1) (b7 := w.heap.size + 2) (c0 := .int .u64 s) (c1 := .slice v1 nb.mn.length g1) (c2 := .slice v2 nb.ms.length g2) (c3 := .slice v3 nb.mp.length g3) (c4 := .slice v4 nb.fn.length g4) (c5 := .slice v5 nb.fv.length g5) (d0 := .string nm) (d1 := .slice k1 pl.length h1) (d2 := .slice k2 es.length h2) (by assumption) _) (first | (go_at_call 24; refine (unhide KI).mono ?_; rintro e w26 ⟨gI, nI, cI, rfl, eI, b26⟩) | (go_at_call 29; refine (unhide KG gI nI cI _ eI b26).mono ?_; rintro e w27 ⟨gW, nW, cW, rfl, eW, b27⟩))
      rename_i hHeld
      have bb27 : Below w25.drew.heap.size w25.drew w27 := b26.trans (b27.mono b26.size)
      have EW := hide (eW.mono (lo' := w25.heap.size) b26.size (Nat.le_refl _))
      have HNW := hide (ents_len eW)
      have HBW := hide bb27
      have SRW2 := hide ((unhide SRD).step bb27)
      clear hHeld eI b26 eW b27 bb27 KI KG CB SRD
      have srd := (unhide SRW2).step (Below.refl _ _).drew
      have CB := hide srd.sb
      have kI := finalEntries_any (.slice v4 nb.fn.length g4) (.slice v5 nb.fv.length g5) nb.fn nb.fv w27.drew srd.B.2.2.2.1 srd.B.2.2.2.2 srd.o2 l4
      have kG : ∀ gI nI cI w28, EntsAt 2 fCells w27.drew.heap.size w28.heap.size w28 (.slice (some ⟨gI, 0, none⟩) nI cI) (entsTo nb.fn (ff nb.fv) nb.fn.length) → Below w27.drew.heap.size w27.drew w28 → Calls Try.prog 30 #[(.slice (some ⟨w23.heap.size + 1, 0, none⟩) 0 0), .slice (some ⟨gI, 0, none⟩) nI cI, .slice k2 es.length h2] w28 fun e w' => ∃ g n c, e = .returned (.slice (some ⟨g, 0, none⟩) n c) ∧ EntsAt 2 fCells w28.heap.size w'.heap.size w' (.slice (some ⟨g, 0, none⟩) n c) (([] : List (ByteArray × Int)) ++ freshE es ([] : List (ByteArray × Int)) (entsTo nb.fn (ff nb.fv) nb.fn.length)) ∧ Below w28.heap.size w28 w' := fun gI nI cI w28 eI b28 =>
        mergeFinals_any (.slice (some ⟨w23.heap.size + 1, 0, none⟩) 0 0) (.slice (some ⟨gI, 0, none⟩) nI cI) (.slice k2 es.length h2) ([] : List (ByteArray × Int)) (entsTo nb.fn (ff nb.fv) nb.fn.length) es w28 (((((((unhide EBF).same (w' := w25.drew) (Same.refl _ _ _)).same (Same.below (unhide HBW) (Nat.le_refl _))).mono (Nat.zero_le _) (unhide HBW).size).same (w' := w27.drew) (Same.refl _ _ _)).same (Same.below b28 (Nat.le_refl _))).mono (Nat.zero_le _) b28.size) (eI.mono (Nat.zero_le _) (Nat.le_refl _)) ((srd.step b28).E.mono (Nat.zero_le _) (srd.step b28).o2) (Nat.le_refl _) (by simp) (Nat.le_trans (entsTo_len _ _ _) l4)
      have KI := hide kI
      have KG := hide kG
      have SRD := hide srd
      clear srd kI kG
      go_wp2_with fail
      go_region_held3 (fun w' => w'.cell? ⟨w.heap.size + 1, 0, none⟩ = some (.int .u64 s) ∧ w'.cell? ⟨w.heap.size + 1, 1, none⟩ = some (.slice v1 nb.mn.length g1) ∧ w'.cell? ⟨w.heap.size + 1, 2, none⟩ = some (.slice v2 nb.ms.length g2) ∧ w'.cell? ⟨w.heap.size + 1, 3, none⟩ = some (.slice v3 nb.mp.length g3) ∧ w'.cell? ⟨w.heap.size + 1, 4, none⟩ = some (.slice v4 nb.fn.length g4) ∧ w'.cell? ⟨w.heap.size + 1, 5, none⟩ = some (.slice v5 nb.fv.length g5) ∧ w'.cell? ⟨w.heap.size + 2, 0, none⟩ = some (.string nm) ∧ w'.cell? ⟨w.heap.size + 2, 1, none⟩ = some (.slice k1 pl.length h1) ∧ w'.cell? ⟨w.heap.size + 2, 2, none⟩ = some (.slice k2 es.length h2)) (first | with_reducible exact unhide CB | with_reducible assumption | with_reducible exact SB.step (b6 := w.heap.size + 1) (b7 := w.heap.size + 2) (c0 := .int .u64 s) (c1 := .slice v1 nb.mn.length g1) (c2 := .slice v2 nb.ms.length g2) (c3 := .slice v3 nb.mp.length g3) (c4 := .slice v4 nb.fn.length g4) (c5 := .slice v5 nb.fv.length g5) (d0 := .string nm) (d1 := .slice k1 pl.length h1) (d2 := .slice k2 es.length h2) (by assumption) (by assumption) | with_reducible exact SB.alloc (b6 := w.heap.size + 1) (b7 := w.heap.size + 2) (c0 := .int .u64 s) (c1 := .slice v1 nb.mn.length g1) (c2 := .slice v2 nb.ms.length g2) (c3 := .slice v3 nb.mp.length g3) (c4 := .slice v4 nb.fn.length g4) (c5 := .slice v5 nb.fv.length g5) (d0 := .string nm) (d1 := .slice k1 pl.length h1) (d2 := .slice k2 es.length h2) (by assumption) _) (first | (go_at_call 25; refine (unhide KI).mono ?_; rintro e w28 ⟨gI2, nI2, cI2, rfl, eI, b28⟩) | (go_at_call 30; refine (unhide KG gI2 nI2 cI2 _ eI b28).mono ?_; rintro e w29 ⟨gV, nV, cV, rfl, eV, b29⟩))
      rename_i hHeld
      have bb29 : Below w27.drew.heap.size w27.drew w29 := b28.trans (b29.mono b28.size)
      have EV := hide (eV.mono (lo' := w27.heap.size) b28.size (Nat.le_refl _))
      have HNV := hide (ents_len eV)
      have HBV := hide bb29
      have SRW3 := hide ((unhide SRD).step bb29)
      clear hHeld eI b28 eV b29 bb29 KI KG CB SRD SRW2
      go_upto_region 28 with fail
      go_cut [22] from 193 to 204 (fun c wx => (∃ q, c = .bool q) ∧ wx = w29)
      case first =>
        by_cases hq1 : 1 < nW
        · go_wp2_with fail
          go_meet
          case rel => exact ⟨⟨_, rfl⟩, rfl⟩
        · by_cases hq2 : 0 < nV
          · go_wp2_with fail
            go_meet
            case rel => exact ⟨⟨_, rfl⟩, rfl⟩
          · go_wp2_with fail
            go_meet
            case rel => exact ⟨⟨_, rfl⟩, rfl⟩
      case rest =>
        obtain ⟨⟨q, rfl⟩, hwx⟩ := hcut
        obtain rfl := hwx.symm
        have HB9 : Hid (Below w25.heap.size w25 w29) := hide (((Below.refl _ _).drew.trans (unhide HBW)).trans (((Below.refl _ _).drew.trans (unhide HBV)).mono (unhide HBW).size))
        have sr9 := unhide SRW3
        have sn9 := (unhide SNW).step (unhide HB9)
        have c8 : S8 PS (w.heap.size + 1) 0 1 2 (.int .u64 s) (.map mo) (.map fo) (.string nm) (.int .u64 q2) (.int .u64 s) (.slice v1 nb.mn.length g1) (.slice v2 nb.ms.length g2) w29.drew := (⟨sn9.cells.1, sn9.cells.2.1, sn9.cells.2.2.1, sn9.cells.2.2.2.1, sn9.cells.2.2.2.2, sr9.T.y.cell 0, sr9.T.y.cell 1, sr9.T.y.cell 2⟩ : S8 PS (w.heap.size + 1) 0 1 2 (.int .u64 s) (.map mo) (.map fo) (.string nm) (.int .u64 q2) (.int .u64 s) (.slice v1 nb.mn.length g1) (.slice v2 nb.ms.length g2) w29)
        have snd := sn9.step (Below.refl _ _).drew
        have eW9 := ((((unhide EW).same (w' := w27.drew) (Same.refl _ _ _)).same (Same.below (unhide HBV) (Nat.le_refl _))).same (w' := w29.drew) (Same.refl _ _ _))
        have eV9 := (unhide EV).same (w' := w29.drew) (Same.refl _ _ _)
        have h79 : w27.heap.size ≤ w29.heap.size := (unhide HBV).size
        have hH : w25.heap.size ≤ w29.heap.size := (unhide HB9).size
        have hs9 : Same 0 w25.heap.size w25 w29.drew := Same.below (unhide HB9).drew (Nat.le_refl _)
        have rd := ((unhide RDW).mono (unhide hW05)).same hs9
        have k26 := snd.markers2 (v := .slice (some ⟨gW, 0, none⟩) nW cW) eW9 h79 rd hH ((unhide KP1).same hs9) ((unhide KP2).same hs9)
        clear rd RDW hs9 KP1 KP2

        have k27 : ∀ w1, Below w29.drew.heap.size w29.drew w1 → Calls Try.prog 27 #[.map fo, .slice (some ⟨gV, 0, none⟩) nV cV] w1 fun e w' => e = .returned (.bool true) ∧ Below w1.heap.size w1 w' := fun w1 b => (snd.step b).finals (eV9.same (w' := w1) (Same.below b (Nat.le_refl _))) b.size
        have hPS9 : PS < w29.heap.size := Nat.lt_of_lt_of_le hPSW (unhide HB9).size
        have C8 := hide c8
        have K26 := hide k26
        have K27 := hide k27
        have FIN := hide sr9.below
        clear sr9 sn9 c8 snd eW9 eV9 k26 k27 HB9 SRW3 SRW SNW EW EV HBW HBV EBM EBF
        go_wp2_with fail
        refine wp_region_held_drew (S := (fun w' => w'.cell? ⟨PS, 0, none⟩ = some (.int .u64 s) ∧ w'.cell? ⟨PS, 1, none⟩ = some (.map mo) ∧ w'.cell? ⟨PS, 2, none⟩ = some (.map fo) ∧ w'.cell? ⟨PS, 3, none⟩ = some (.string nm) ∧ w'.cell? ⟨PS, 4, none⟩ = some (.int .u64 q2) ∧ w'.cell? ⟨w.heap.size + 1, 0, none⟩ = some (.int .u64 s) ∧ w'.cell? ⟨w.heap.size + 1, 1, none⟩ = some (.slice v1 nb.mn.length g1) ∧ w'.cell? ⟨w.heap.size + 1, 2, none⟩ = some (.slice v2 nb.ms.length g2))) (by kernel_rfl) (unhide C8) (fun hHeld => ?_)
        refine wpAnyH_take (i := 0) (oi := ?zqoi0) (v := ?zqv0) ?zqhi0 (by kernel_rfl) (by kernel_rfl) (by kernel_rfl) ?zqhq0 ?zqhy0 hHeld ?zqrest0
        case zqhi0 => simp only [List.getElem?_toArray, List.getElem?_cons_zero]; rfl
        case zqhy0 =>
          refine Or.inl ⟨by rfl, ?_⟩
          intro wz hSw
          try dsimp only at hSw
          go_simp
          all_goals with_reducible rfl
        case zqhq0 => exact fun _ _ _ h => h
        try simp only [Act.put, List.setIfInBounds_toArray, List.set_cons_zero, List.set_cons_succ]
        refine wpAnyH_take (i := 1) (oi := ?zqoi1) (v := ?zqv1) ?zqhi1 (by kernel_rfl) (by kernel_rfl) (by kernel_rfl) ?zqhq1 ?zqhy1 hHeld ?zqrest1
        case zqhi1 => simp only [List.getElem?_toArray, List.getElem?_cons_zero, List.getElem?_cons_succ]; rfl
        case zqhy1 =>
          refine Or.inl ⟨by rfl, ?_⟩
          intro wz hSw
          try dsimp only at hSw
          go_simp
          all_goals with_reducible rfl
        case zqhq1 => exact fun _ _ _ h => h
        try simp only [Act.put, List.setIfInBounds_toArray, List.set_cons_zero, List.set_cons_succ]
        refine wpAnyH_take (i := 2) (oi := ?zqoi2) (v := ?zqv2) ?zqhi2 (by kernel_rfl) (by kernel_rfl) (by kernel_rfl) ?zqhq2 ?zqhy2 hHeld ?zqrest2
        case zqhi2 => simp only [List.getElem?_toArray, List.getElem?_cons_zero, List.getElem?_cons_succ]; rfl
        case zqhy2 =>
          refine Or.inl ⟨by rfl, ?_⟩
          intro wz hSw
          try dsimp only at hSw
          go_simp
          all_goals with_reducible rfl
        case zqhq2 => exact fun _ _ _ h => h
        try simp only [Act.put, List.setIfInBounds_toArray, List.set_cons_zero, List.set_cons_succ]
        refine wpAnyH_take (i := 3) (oi := ?zqoi3) (v := undef) ?zqhi3 (by kernel_rfl) (by kernel_rfl) (by kernel_rfl) ?zqhq3 ?zqhy3 hHeld ?zqrest3
        case zqhi3 => simp only [List.getElem?_toArray, List.getElem?_cons_zero, List.getElem?_cons_succ]; rfl
        case zqhq3 => exact fun _ _ _ h => h
        case zqhy3 => exact Or.inr ⟨by rfl, rfl⟩
        try simp only [Act.put, List.setIfInBounds_toArray, List.set_cons_zero, List.set_cons_succ]
        refine wpAnyH_take (i := 4) (oi := ?zqoi4) (v := ?zqv4) ?zqhi4 (by kernel_rfl) (by kernel_rfl) (by kernel_rfl) ?zqhq4 ?zqhy4 hHeld ?zqrest4
        case zqhi4 => simp only [List.getElem?_toArray, List.getElem?_cons_zero, List.getElem?_cons_succ]; rfl
        case zqhy4 =>
          refine Or.inl ⟨by rfl, ?_⟩
          intro wz hSw
          try dsimp only at hSw
          go_simp
          all_goals with_reducible rfl
        case zqhq4 => exact fun _ _ _ h => h
        try simp only [Act.put, List.setIfInBounds_toArray, List.set_cons_zero, List.set_cons_succ]
        refine wpAnyH_take (i := 5) (oi := ?zqoi5) (v := ?zqv5) ?zqhi5 (by kernel_rfl) (by kernel_rfl) (by kernel_rfl) ?zqhq5 ?zqhy5 hHeld ?zqrest5
        case zqhi5 => simp only [List.getElem?_toArray, List.getElem?_cons_zero, List.getElem?_cons_succ]; rfl
        case zqhy5 =>
          refine Or.inl ⟨by rfl, ?_⟩
          intro wz hSw
          try dsimp only at hSw
          go_simp
          all_goals with_reducible rfl
        case zqhq5 => exact fun _ _ _ h => h
        try simp only [Act.put, List.setIfInBounds_toArray, List.set_cons_zero, List.set_cons_succ]
        refine wpAnyH_take (i := 6) (oi := ?zqoi6) (v := ?zqv6) ?zqhi6 (by kernel_rfl) (by kernel_rfl) (by kernel_rfl) ?zqhq6 ?zqhy6 hHeld ?zqrest6
        case zqhi6 => simp only [List.getElem?_toArray, List.getElem?_cons_zero, List.getElem?_cons_succ]; rfl
        case zqhy6 =>
          refine Or.inl ⟨by rfl, ?_⟩
          intro wz hSw
          try dsimp only at hSw
          go_simp
          all_goals with_reducible rfl
        case zqhq6 => exact fun _ _ _ h => h
        try simp only [Act.put, List.setIfInBounds_toArray, List.set_cons_zero, List.set_cons_succ]
        refine wpAnyH_take (i := 7) (oi := ?zqoi7) (v := ?zqv7) ?zqhi7 (by kernel_rfl) (by kernel_rfl) (by kernel_rfl) ?zqhq7 ?zqhy7 hHeld ?zqrest7
        case zqhi7 => simp only [List.getElem?_toArray, List.getElem?_cons_zero, List.getElem?_cons_succ]; rfl
        case zqhy7 =>
          refine Or.inl ⟨by rfl, ?_⟩
          intro wz hSw
          try dsimp only at hSw
          go_simp
          all_goals with_reducible rfl
        case zqhq7 => exact fun _ _ _ h => h
        try simp only [Act.put, List.setIfInBounds_toArray, List.set_cons_zero, List.set_cons_succ]
        refine wpAnyH_take (i := 8) (oi := ?zqoi8) (v := ?zqv8) ?zqhi8 (by kernel_rfl) (by kernel_rfl) (by kernel_rfl) ?zqhq8 ?zqhy8 hHeld ?zqrest8
        case zqhi8 => simp only [List.getElem?_toArray, List.getElem?_cons_zero, List.getElem?_cons_succ]; rfl
        case zqhy8 =>
          refine Or.inl ⟨by rfl, ?_⟩
          intro wz hSw
          try dsimp only at hSw
          go_simp
          all_goals with_reducible rfl
        case zqhq8 => exact fun _ _ _ h => h
        try simp only [Act.put, List.setIfInBounds_toArray, List.set_cons_zero, List.set_cons_succ]
        refine wpAnyH_take (i := 9) (oi := ?zqoi9) (v := ?zqv9) ?zqhi9 (by kernel_rfl) (by kernel_rfl) (by kernel_rfl) ?zqhq9 ?zqhy9 hHeld ?zqrest9
        case zqhi9 => simp only [List.getElem?_toArray, List.getElem?_cons_zero, List.getElem?_cons_succ]; rfl
        case zqhy9 =>
          refine Or.inl ⟨by rfl, ?_⟩
          intro wz hSw
          try dsimp only at hSw
          go_simp
          all_goals with_reducible rfl
        case zqhq9 => exact fun _ _ _ h => h
        try simp only [Act.put, List.setIfInBounds_toArray, List.set_cons_zero, List.set_cons_succ]
        refine wpAnyH_take (i := 10) (oi := ?zqoi10) (v := ?zqv10) ?zqhi10 (by kernel_rfl) (by kernel_rfl) (by kernel_rfl) ?zqhq10 ?zqhy10 hHeld ?zqrest10
        case zqhi10 => simp only [List.getElem?_toArray, List.getElem?_cons_zero, List.getElem?_cons_succ]; rfl
        case zqhy10 =>
          refine Or.inl ⟨by rfl, ?_⟩
          intro wz hSw
          try dsimp only at hSw
          go_simp
          all_goals with_reducible rfl
        case zqhq10 => exact fun _ _ _ h => h
        try simp only [Act.put, List.setIfInBounds_toArray, List.set_cons_zero, List.set_cons_succ]
        refine wpAnyH_take (i := 11) (oi := ?zqoi11) (v := ?zqv11) ?zqhi11 (by kernel_rfl) (by kernel_rfl) (by kernel_rfl) ?zqhq11 ?zqhy11 hHeld ?zqrest11
        case zqhi11 => simp only [List.getElem?_toArray, List.getElem?_cons_zero, List.getElem?_cons_succ]; rfl
        case zqhy11 =>
          refine Or.inl ⟨by rfl, ?_⟩
          intro wz hSw
          try dsimp only at hSw
          go_simp
          all_goals with_reducible rfl
        case zqhq11 => exact fun _ _ _ h => h
        try simp only [Act.put, List.setIfInBounds_toArray, List.set_cons_zero, List.set_cons_succ]
        refine wpAnyH_take (i := 12) (oi := ?zqoi12) (v := ?zqv12) ?zqhi12 (by kernel_rfl) (by kernel_rfl) (by kernel_rfl) ?zqhq12 ?zqhy12 hHeld ?zqrest12
        case zqhi12 => simp only [List.getElem?_toArray, List.getElem?_cons_zero, List.getElem?_cons_succ]; rfl
        case zqhy12 =>
          refine Or.inl ⟨by rfl, ?_⟩
          intro wz hSw
          try dsimp only at hSw
          go_simp
          all_goals with_reducible rfl
        case zqhq12 => exact fun _ _ _ h => h
        try simp only [Act.put, List.setIfInBounds_toArray, List.set_cons_zero, List.set_cons_succ]
        refine wpAnyH_take (i := 13) (oi := ?zqoi13) (v := ?zqv13) ?zqhi13 (by kernel_rfl) (by kernel_rfl) (by kernel_rfl) ?zqhq13 ?zqhy13 hHeld ?zqrest13
        case zqhi13 => simp only [List.getElem?_toArray, List.getElem?_cons_zero, List.getElem?_cons_succ]; rfl
        case zqhy13 =>
          refine Or.inl ⟨by rfl, ?_⟩
          intro wz hSw
          try dsimp only at hSw
          go_simp
          all_goals with_reducible rfl
        case zqhq13 => exact fun _ _ _ h => h
        try simp only [Act.put, List.setIfInBounds_toArray, List.set_cons_zero, List.set_cons_succ]
        refine wpAnyH_take (i := 14) (oi := ?zqoi14) (v := ?zqv14) ?zqhi14 (by kernel_rfl) (by kernel_rfl) (by kernel_rfl) ?zqhq14 ?zqhy14 hHeld ?zqrest14
        case zqhi14 => simp only [List.getElem?_toArray, List.getElem?_cons_zero, List.getElem?_cons_succ]; rfl
        case zqhy14 =>
          refine Or.inl ⟨by rfl, ?_⟩
          intro wz hSw
          try dsimp only at hSw
          go_simp
          all_goals with_reducible rfl
        case zqhq14 => exact fun _ _ _ h => h
        try simp only [Act.put, List.setIfInBounds_toArray, List.set_cons_zero, List.set_cons_succ]
        refine wpAnyH_take (i := 15) (oi := ?zqoi15) (v := ?zqv15) ?zqhi15 (by kernel_rfl) (by kernel_rfl) (by kernel_rfl) ?zqhq15 ?zqhy15 hHeld ?zqrest15
        case zqhi15 => simp only [List.getElem?_toArray, List.getElem?_cons_zero, List.getElem?_cons_succ]; rfl
        case zqhy15 =>
          refine Or.inl ⟨by rfl, ?_⟩
          intro wz hSw
          try dsimp only at hSw
          go_simp
          all_goals with_reducible rfl
        case zqhq15 => exact fun _ _ _ h => h
        try simp only [Act.put, List.setIfInBounds_toArray, List.set_cons_zero, List.set_cons_succ]
        refine wpAnyH_take (i := 16) (oi := ?zqoi16) (v := ?zqv16) ?zqhi16 (by kernel_rfl) (by kernel_rfl) (by kernel_rfl) ?zqhq16 ?zqhy16 hHeld ?zqrest16
        case zqhi16 => simp only [List.getElem?_toArray, List.getElem?_cons_zero, List.getElem?_cons_succ]; rfl
        case zqhy16 =>
          refine Or.inl ⟨by rfl, ?_⟩
          intro wz hSw
          try dsimp only at hSw
          go_simp
          all_goals with_reducible rfl
        case zqhq16 => exact fun _ _ _ h => h
        try simp only [Act.put, List.setIfInBounds_toArray, List.set_cons_zero, List.set_cons_succ]
        refine wpAnyH_take (i := 17) (oi := ?zqoi17) (v := ?zqv17) ?zqhi17 (by kernel_rfl) (by kernel_rfl) (by kernel_rfl) ?zqhq17 ?zqhy17 hHeld ?zqrest17
        case zqhi17 => simp only [List.getElem?_toArray, List.getElem?_cons_zero, List.getElem?_cons_succ]; rfl
        case zqhy17 =>
          refine Or.inl ⟨by rfl, ?_⟩
          intro wz hSw
          try dsimp only at hSw
          go_simp
          all_goals with_reducible rfl
        case zqhq17 => exact fun _ _ _ h => h
        try simp only [Act.put, List.setIfInBounds_toArray, List.set_cons_zero, List.set_cons_succ]
        refine wpAnyH_take (i := 18) (oi := ?zqoi18) (v := ?zqv18) ?zqhi18 (by kernel_rfl) (by kernel_rfl) (by kernel_rfl) ?zqhq18 ?zqhy18 hHeld ?zqrest18
        case zqhi18 => simp only [List.getElem?_toArray, List.getElem?_cons_zero, List.getElem?_cons_succ]; rfl
        case zqhy18 =>
          refine Or.inl ⟨by rfl, ?_⟩
          intro wz hSw
          try dsimp only at hSw
          go_simp
          all_goals with_reducible rfl
        case zqhq18 => exact fun _ _ _ h => h
        try simp only [Act.put, List.setIfInBounds_toArray, List.set_cons_zero, List.set_cons_succ]
        refine wpAnyH_take (i := 19) (oi := ?zqoi19) (v := ?zqv19) ?zqhi19 (by kernel_rfl) (by kernel_rfl) (by kernel_rfl) ?zqhq19 ?zqhy19 hHeld ?zqrest19
        case zqhi19 => simp only [List.getElem?_toArray, List.getElem?_cons_zero, List.getElem?_cons_succ]; rfl
        case zqhy19 =>
          refine Or.inl ⟨by rfl, ?_⟩
          intro wz hSw
          try dsimp only at hSw
          go_simp
          all_goals with_reducible rfl
        case zqhq19 => exact fun _ _ _ h => h
        try simp only [Act.put, List.setIfInBounds_toArray, List.set_cons_zero, List.set_cons_succ]
        refine wpAnyH_take (i := 20) (oi := ?zqoi20) (v := ?zqv20) ?zqhi20 (by kernel_rfl) (by kernel_rfl) (by kernel_rfl) ?zqhq20 ?zqhy20 hHeld ?zqrest20
        case zqhi20 => simp only [List.getElem?_toArray, List.getElem?_cons_zero, List.getElem?_cons_succ]; rfl
        case zqhy20 =>
          refine Or.inl ⟨by rfl, ?_⟩
          intro wz hSw
          try dsimp only at hSw
          go_simp
          all_goals with_reducible rfl
        case zqhq20 => exact fun _ _ _ h => h
        try simp only [Act.put, List.setIfInBounds_toArray, List.set_cons_zero, List.set_cons_succ]
        refine wpAnyH_take (i := 21) (oi := ?zqoi21) (v := ?zqv21) ?zqhi21 (by kernel_rfl) (by kernel_rfl) (by kernel_rfl) ?zqhq21 ?zqhy21 hHeld ?zqrest21
        case zqhi21 => simp only [List.getElem?_toArray, List.getElem?_cons_zero, List.getElem?_cons_succ]; rfl
        case zqhy21 =>
          refine Or.inl ⟨by rfl, ?_⟩
          intro wz hSw
          try dsimp only at hSw
          go_simp
          all_goals with_reducible rfl
        case zqhq21 => exact fun _ _ _ h => h
        try simp only [Act.put, List.setIfInBounds_toArray, List.set_cons_zero, List.set_cons_succ]
        refine wpAnyH_take (i := 22) (oi := ?zqoi22) (v := ?zqv22) ?zqhi22 (by kernel_rfl) (by kernel_rfl) (by kernel_rfl) ?zqhq22 ?zqhy22 hHeld ?zqrest22
        case zqhi22 => simp only [List.getElem?_toArray, List.getElem?_cons_zero, List.getElem?_cons_succ]; rfl
        case zqhy22 =>
          refine Or.inl ⟨by rfl, ?_⟩
          intro wz hSw
          try dsimp only at hSw
          go_simp
          all_goals with_reducible rfl
        case zqhq22 => exact fun _ _ _ h => h
        try simp only [Act.put, List.setIfInBounds_toArray, List.set_cons_zero, List.set_cons_succ]
        refine wpAnyH_take (i := 23) (oi := ?zqoi23) (v := ?zqv23) ?zqhi23 (by kernel_rfl) (by kernel_rfl) (by kernel_rfl) ?zqhq23 ?zqhy23 hHeld ?zqrest23
        case zqhi23 => simp only [List.getElem?_toArray, List.getElem?_cons_zero, List.getElem?_cons_succ]; rfl
        case zqhy23 =>
          refine Or.inl ⟨by rfl, ?_⟩
          intro wz hSw
          try dsimp only at hSw
          go_simp
          all_goals with_reducible rfl
        case zqhq23 => exact fun _ _ _ h => h
        try simp only [Act.put, List.setIfInBounds_toArray, List.set_cons_zero, List.set_cons_succ]
        refine wpAnyH_take (i := 24) (oi := ?zqoi24) (v := ?zqv24) ?zqhi24 (by kernel_rfl) (by kernel_rfl) (by kernel_rfl) ?zqhq24 ?zqhy24 hHeld ?zqrest24
        case zqhi24 => simp only [List.getElem?_toArray, List.getElem?_cons_zero, List.getElem?_cons_succ]; rfl
        case zqhy24 =>
          refine Or.inl ⟨by rfl, ?_⟩
          intro wz hSw
          try dsimp only at hSw
          go_simp
          all_goals with_reducible rfl
        case zqhq24 => exact fun _ _ _ h => h
        try simp only [Act.put, List.setIfInBounds_toArray, List.set_cons_zero, List.set_cons_succ]
        refine wpAnyH_take (i := 25) (oi := ?zqoi25) (v := ?zqv25) ?zqhi25 (by kernel_rfl) (by kernel_rfl) (by kernel_rfl) ?zqhq25 ?zqhy25 hHeld ?zqrest25
        case zqhi25 => simp only [List.getElem?_toArray, List.getElem?_cons_zero, List.getElem?_cons_succ]; rfl
        case zqhy25 =>
          refine Or.inl ⟨by rfl, ?_⟩
          intro wz hSw
          try dsimp only at hSw
          go_simp
          all_goals with_reducible rfl
        case zqhq25 => exact fun _ _ _ h => h
        try simp only [Act.put, List.setIfInBounds_toArray, List.set_cons_zero, List.set_cons_succ]
        refine wpAnyH_take (i := 26) (oi := ?zqoi26) (v := ?zqv26) ?zqhi26 (by kernel_rfl) (by kernel_rfl) (by kernel_rfl) ?zqhq26 ?zqhy26 hHeld ?zqrest26
        case zqhi26 => simp only [List.getElem?_toArray, List.getElem?_cons_zero, List.getElem?_cons_succ]; rfl
        case zqhy26 =>
          refine Or.inl ⟨by rfl, ?_⟩
          intro wz hSw
          try dsimp only at hSw
          go_simp
          all_goals with_reducible rfl
        case zqhq26 => exact fun _ _ _ h => h
        try simp only [Act.put, List.setIfInBounds_toArray, List.set_cons_zero, List.set_cons_succ]
        refine wpAnyH_take (i := 27) (oi := ?zqoi27) (v := ?zqv27) ?zqhi27 (by kernel_rfl) (by kernel_rfl) (by kernel_rfl) ?zqhq27 ?zqhy27 hHeld ?zqrest27
        case zqhi27 => simp only [List.getElem?_toArray, List.getElem?_cons_zero, List.getElem?_cons_succ]; rfl
        case zqhy27 =>
          refine Or.inl ⟨by rfl, ?_⟩
          intro wz hSw
          try dsimp only at hSw
          go_simp
          all_goals with_reducible rfl
        case zqhq27 => exact fun _ _ _ h => h
        try simp only [Act.put, List.setIfInBounds_toArray, List.set_cons_zero, List.set_cons_succ]
        refine wpAnyH_take (i := 28) (oi := ?zqoi28) (v := ?zqv28) ?zqhi28 (by kernel_rfl) (by kernel_rfl) (by kernel_rfl) ?zqhq28 ?zqhy28 hHeld ?zqrest28
        case zqhi28 => simp only [List.getElem?_toArray, List.getElem?_cons_zero, List.getElem?_cons_succ]; rfl
        case zqhy28 =>
          refine Or.inl ⟨by rfl, ?_⟩
          intro wz hSw
          try dsimp only at hSw
          go_simp
          all_goals with_reducible rfl
        case zqhq28 => exact fun _ _ _ h => h
        try simp only [Act.put, List.setIfInBounds_toArray, List.set_cons_zero, List.set_cons_succ]
        refine wpAnyH_take (i := 29) (oi := ?zqoi29) (v := ?zqv29) ?zqhi29 (by kernel_rfl) (by kernel_rfl) (by kernel_rfl) ?zqhq29 ?zqhy29 hHeld ?zqrest29
        case zqhi29 => simp only [List.getElem?_toArray, List.getElem?_cons_zero, List.getElem?_cons_succ]; rfl
        case zqhy29 =>
          refine Or.inl ⟨by rfl, ?_⟩
          intro wz hSw
          try dsimp only at hSw
          go_simp
          all_goals with_reducible rfl
        case zqhq29 => exact fun _ _ _ h => h
        try simp only [Act.put, List.setIfInBounds_toArray, List.set_cons_zero, List.set_cons_succ]
        refine wpAnyH_take (i := 30) (oi := ?zqoi30) (v := ?zqv30) ?zqhi30 (by kernel_rfl) (by kernel_rfl) (by kernel_rfl) ?zqhq30 ?zqhy30 hHeld ?zqrest30
        case zqhi30 => simp only [List.getElem?_toArray, List.getElem?_cons_zero, List.getElem?_cons_succ]; rfl
        case zqhy30 =>
          refine Or.inl ⟨by rfl, ?_⟩
          intro wz hSw
          try dsimp only at hSw
          go_simp
          all_goals with_reducible rfl
        case zqhq30 => exact fun _ _ _ h => h
        try simp only [Act.put, List.setIfInBounds_toArray, List.set_cons_zero, List.set_cons_succ]
        refine wpAnyH_take (i := 31) (oi := ?zqoi31) (v := ?zqv31) ?zqhi31 (by kernel_rfl) (by kernel_rfl) (by kernel_rfl) ?zqhq31 ?zqhy31 hHeld ?zqrest31
        case zqhi31 => simp only [List.getElem?_toArray, List.getElem?_cons_zero, List.getElem?_cons_succ]; rfl
        case zqhy31 =>
          refine Or.inl ⟨by rfl, ?_⟩
          intro wz hSw
          try dsimp only at hSw
          go_simp
          all_goals with_reducible rfl
        case zqhq31 => exact fun _ _ _ h => h
        try simp only [Act.put, List.setIfInBounds_toArray, List.set_cons_zero, List.set_cons_succ]
        refine wpAnyH_take (i := 32) (oi := ?zqoi32) (v := ?zqv32) ?zqhi32 (by kernel_rfl) (by kernel_rfl) (by kernel_rfl) ?zqhq32 ?zqhy32 hHeld ?zqrest32
        case zqhi32 => simp only [List.getElem?_toArray, List.getElem?_cons_zero, List.getElem?_cons_succ]; rfl
        case zqhy32 =>
          refine Or.inl ⟨by rfl, ?_⟩
          intro wz hSw
          try dsimp only at hSw
          go_simp
          all_goals with_reducible rfl
        case zqhq32 => exact fun _ _ _ h => h
        try simp only [Act.put, List.setIfInBounds_toArray, List.set_cons_zero, List.set_cons_succ]
        refine wpAnyH_take (i := 33) (oi := ?zqoi33) (v := ?zqv33) ?zqhi33 (by kernel_rfl) (by kernel_rfl) (by kernel_rfl) ?zqhq33 ?zqhy33 hHeld ?zqrest33
        case zqhi33 => simp only [List.getElem?_toArray, List.getElem?_cons_zero, List.getElem?_cons_succ]; rfl
        case zqhy33 =>
          refine Or.inl ⟨by rfl, ?_⟩
          intro wz hSw
          try dsimp only at hSw
          go_simp
          all_goals with_reducible rfl
        case zqhq33 => exact fun _ _ _ h => h
        try simp only [Act.put, List.setIfInBounds_toArray, List.set_cons_zero, List.set_cons_succ]
        refine wpAnyH_take (i := 34) (oi := ?zqoi34) (v := ?zqv34) ?zqhi34 (by kernel_rfl) (by kernel_rfl) (by kernel_rfl) ?zqhq34 ?zqhy34 hHeld ?zqrest34
        case zqhi34 => simp only [List.getElem?_toArray, List.getElem?_cons_zero, List.getElem?_cons_succ]; rfl
        case zqhy34 =>
          refine Or.inl ⟨by rfl, ?_⟩
          intro wz hSw
          try dsimp only at hSw
          go_simp
          all_goals with_reducible rfl
        case zqhq34 => exact fun _ _ _ h => h
        try simp only [Act.put, List.setIfInBounds_toArray, List.set_cons_zero, List.set_cons_succ]
        refine wpAnyH_take (i := 35) (oi := ?zqoi35) (v := ?zqv35) ?zqhi35 (by kernel_rfl) (by kernel_rfl) (by kernel_rfl) ?zqhq35 ?zqhy35 hHeld ?zqrest35
        case zqhi35 => simp only [List.getElem?_toArray, List.getElem?_cons_zero, List.getElem?_cons_succ]; rfl
        case zqhy35 =>
          refine Or.inl ⟨by rfl, ?_⟩
          intro wz hSw
          try dsimp only at hSw
          go_simp
          all_goals with_reducible rfl
        case zqhq35 => exact fun _ _ _ h => h
        try simp only [Act.put, List.setIfInBounds_toArray, List.set_cons_zero, List.set_cons_succ]
        refine wpAnyH_take (i := 36) (oi := ?zqoi36) (v := ?zqv36) ?zqhi36 (by kernel_rfl) (by kernel_rfl) (by kernel_rfl) ?zqhq36 ?zqhy36 hHeld ?zqrest36
        case zqhi36 => simp only [List.getElem?_toArray, List.getElem?_cons_zero, List.getElem?_cons_succ]; rfl
        case zqhy36 =>
          refine Or.inl ⟨by rfl, ?_⟩
          intro wz hSw
          try dsimp only at hSw
          go_simp
          all_goals with_reducible rfl
        case zqhq36 => exact fun _ _ _ h => h
        try simp only [Act.put, List.setIfInBounds_toArray, List.set_cons_zero, List.set_cons_succ]
        refine wpAnyH_take (i := 37) (oi := ?zqoi37) (v := ?zqv37) ?zqhi37 (by kernel_rfl) (by kernel_rfl) (by kernel_rfl) ?zqhq37 ?zqhy37 hHeld ?zqrest37
        case zqhi37 => simp only [List.getElem?_toArray, List.getElem?_cons_zero, List.getElem?_cons_succ]; rfl
        case zqhy37 =>
          refine Or.inl ⟨by rfl, ?_⟩
          intro wz hSw
          try dsimp only at hSw
          go_simp
          all_goals with_reducible rfl
        case zqhq37 => exact fun _ _ _ h => h
        try simp only [Act.put, List.setIfInBounds_toArray, List.set_cons_zero, List.set_cons_succ]
        refine wpAnyH_take (i := 38) (oi := ?zqoi38) (v := ?zqv38) ?zqhi38 (by kernel_rfl) (by kernel_rfl) (by kernel_rfl) ?zqhq38 ?zqhy38 hHeld ?zqrest38
        case zqhi38 => simp only [List.getElem?_toArray, List.getElem?_cons_zero, List.getElem?_cons_succ]; rfl
        case zqhy38 =>
          refine Or.inl ⟨by rfl, ?_⟩
          intro wz hSw
          try dsimp only at hSw
          go_simp
          all_goals with_reducible rfl
        case zqhq38 => exact fun _ _ _ h => h
        try simp only [Act.put, List.setIfInBounds_toArray, List.set_cons_zero, List.set_cons_succ]
        refine wpAnyH_ready (rs := [39]) (by kernel_rfl) (by simp) (AllReadyH.cons (o := ?zqoi39) ?zqhi39 (fun K hK => ?zqstep39) AllReadyH.nil)
        case zqhi39 => simp only [List.getElem?_toArray, List.getElem?_cons_zero, List.getElem?_cons_succ]; rfl
        go_simp
        go_at_call 26
        refine (unhide K26).mono ?_
        rintro e w31 ⟨rfl, b31⟩
        go_wp2_with fail
        refine hK.out _ _ (S8.step (p := PS) (q := w.heap.size + 1) (j0 := 0) (j1 := 1) (j2 := 2) (c0 := .int .u64 s) (c1 := .map mo) (c2 := .map fo) (c3 := .string nm) (c4 := .int .u64 q2) (d0 := .int .u64 s) (d1 := .slice v1 nb.mn.length g1) (d2 := .slice v2 nb.ms.length g2) hHeld b31) (fun hHeld => ?_)
        clear hK K
        try simp only [Act.put, List.setIfInBounds_toArray, List.set_cons_zero, List.set_cons_succ]
        refine wpAnyH_take (i := 40) (oi := ?zqoi40) (v := ?zqv40) ?zqhi40 (by kernel_rfl) (by kernel_rfl) (by kernel_rfl) ?zqhq40 ?zqhy40 hHeld ?zqrest40
        case zqhi40 => simp only [List.getElem?_toArray, List.getElem?_cons_zero, List.getElem?_cons_succ]; rfl
        case zqhy40 =>
          refine Or.inl ⟨by rfl, ?_⟩
          intro wz hSw
          try dsimp only at hSw
          go_simp
          all_goals with_reducible rfl
        case zqhq40 => exact fun _ _ _ h => h
        try simp only [Act.put, List.setIfInBounds_toArray, List.set_cons_zero, List.set_cons_succ]
        refine wpAnyH_take (i := 41) (oi := ?zqoi41) (v := ?zqv41) ?zqhi41 (by kernel_rfl) (by kernel_rfl) (by kernel_rfl) ?zqhq41 ?zqhy41 hHeld ?zqrest41
        case zqhi41 => simp only [List.getElem?_toArray, List.getElem?_cons_zero, List.getElem?_cons_succ]; rfl
        case zqhy41 =>
          refine Or.inl ⟨by rfl, ?_⟩
          intro wz hSw
          try dsimp only at hSw
          go_simp
          all_goals with_reducible rfl
        case zqhq41 => exact fun _ _ _ h => h
        try simp only [Act.put, List.setIfInBounds_toArray, List.set_cons_zero, List.set_cons_succ]
        refine wpAnyH_take (i := 42) (oi := ?zqoi42) (v := ?zqv42) ?zqhi42 (by kernel_rfl) (by kernel_rfl) (by kernel_rfl) ?zqhq42 ?zqhy42 hHeld ?zqrest42
        case zqhi42 => simp only [List.getElem?_toArray, List.getElem?_cons_zero, List.getElem?_cons_succ]; rfl
        case zqhy42 =>
          refine Or.inl ⟨by rfl, ?_⟩
          intro wz hSw
          try dsimp only at hSw
          go_simp
          all_goals with_reducible rfl
        case zqhq42 => exact fun _ _ _ h => h
        try simp only [Act.put, List.setIfInBounds_toArray, List.set_cons_zero, List.set_cons_succ]
        refine wpAnyH_take (i := 43) (oi := ?zqoi43) (v := ?zqv43) ?zqhi43 (by kernel_rfl) (by kernel_rfl) (by kernel_rfl) ?zqhq43 ?zqhy43 hHeld ?zqrest43
        case zqhi43 => simp only [List.getElem?_toArray, List.getElem?_cons_zero, List.getElem?_cons_succ]; rfl
        case zqhy43 =>
          refine Or.inl ⟨by rfl, ?_⟩
          intro wz hSw
          try dsimp only at hSw
          go_simp
          all_goals with_reducible rfl
        case zqhq43 => exact fun _ _ _ h => h
        try simp only [Act.put, List.setIfInBounds_toArray, List.set_cons_zero, List.set_cons_succ]
        refine wpAnyH_take (i := 44) (oi := ?zqoi44) (v := ?zqv44) ?zqhi44 (by kernel_rfl) (by kernel_rfl) (by kernel_rfl) ?zqhq44 ?zqhy44 hHeld ?zqrest44
        case zqhi44 => simp only [List.getElem?_toArray, List.getElem?_cons_zero, List.getElem?_cons_succ]; rfl
        case zqhy44 =>
          refine Or.inl ⟨by rfl, ?_⟩
          intro wz hSw
          try dsimp only at hSw
          go_simp
          all_goals with_reducible rfl
        case zqhq44 => exact fun _ _ _ h => h
        try simp only [Act.put, List.setIfInBounds_toArray, List.set_cons_zero, List.set_cons_succ]
        refine wpAnyH_take (i := 45) (oi := ?zqoi45) (v := ?zqv45) ?zqhi45 (by kernel_rfl) (by kernel_rfl) (by kernel_rfl) ?zqhq45 ?zqhy45 hHeld ?zqrest45
        case zqhi45 => simp only [List.getElem?_toArray, List.getElem?_cons_zero, List.getElem?_cons_succ]; rfl
        case zqhy45 =>
          refine Or.inl ⟨by rfl, ?_⟩
          intro wz hSw
          try dsimp only at hSw
          go_simp
          all_goals with_reducible rfl
        case zqhq45 => exact fun _ _ _ h => h
        try simp only [Act.put, List.setIfInBounds_toArray, List.set_cons_zero, List.set_cons_succ]
        refine wpAnyH_take (i := 46) (oi := ?zqoi46) (v := ?zqv46) ?zqhi46 (by kernel_rfl) (by kernel_rfl) (by kernel_rfl) ?zqhq46 ?zqhy46 hHeld ?zqrest46
        case zqhi46 => simp only [List.getElem?_toArray, List.getElem?_cons_zero, List.getElem?_cons_succ]; rfl
        case zqhy46 =>
          refine Or.inl ⟨by rfl, ?_⟩
          intro wz hSw
          try dsimp only at hSw
          go_simp
          all_goals with_reducible rfl
        case zqhq46 => exact fun _ _ _ h => h
        try simp only [Act.put, List.setIfInBounds_toArray, List.set_cons_zero, List.set_cons_succ]
        refine wpAnyH_take (i := 47) (oi := ?zqoi47) (v := ?zqv47) ?zqhi47 (by kernel_rfl) (by kernel_rfl) (by kernel_rfl) ?zqhq47 ?zqhy47 hHeld ?zqrest47
        case zqhi47 => simp only [List.getElem?_toArray, List.getElem?_cons_zero, List.getElem?_cons_succ]; rfl
        case zqhy47 =>
          refine Or.inl ⟨by rfl, ?_⟩
          intro wz hSw
          try dsimp only at hSw
          go_simp
          all_goals with_reducible rfl
        case zqhq47 => exact fun _ _ _ h => h
        try simp only [Act.put, List.setIfInBounds_toArray, List.set_cons_zero, List.set_cons_succ]
        refine wpAnyH_ready (rs := [48]) (by kernel_rfl) (by simp) (AllReadyH.cons (o := ?zqoi48) ?zqhi48 (fun K hK => ?zqstep48) AllReadyH.nil)
        case zqhi48 => simp only [List.getElem?_toArray, List.getElem?_cons_zero, List.getElem?_cons_succ]; rfl
        go_simp
        go_at_call 27
        refine (unhide K27 _ b31).mono ?_
        rintro e w32 ⟨rfl, b32⟩
        go_wp2_with fail
        refine hK.out _ _ (S8.step (p := PS) (q := w.heap.size + 1) (j0 := 0) (j1 := 1) (j2 := 2) (c0 := .int .u64 s) (c1 := .map mo) (c2 := .map fo) (c3 := .string nm) (c4 := .int .u64 q2) (d0 := .int .u64 s) (d1 := .slice v1 nb.mn.length g1) (d2 := .slice v2 nb.ms.length g2) hHeld b32) (fun hHeld => ?_)
        clear hK K
        try simp only [Act.put, List.setIfInBounds_toArray, List.set_cons_zero, List.set_cons_succ]
        refine wpAnyH_take (i := 49) (oi := ?zqoi49) (v := ?zqv49) ?zqhi49 (by kernel_rfl) (by kernel_rfl) (by kernel_rfl) ?zqhq49 ?zqhy49 hHeld ?zqrest49
        case zqhi49 => simp only [List.getElem?_toArray, List.getElem?_cons_zero, List.getElem?_cons_succ]; rfl
        case zqhy49 =>
          refine Or.inl ⟨by rfl, ?_⟩
          intro wz hSw
          try dsimp only at hSw
          go_simp
          all_goals with_reducible rfl
        case zqhq49 => exact fun _ _ _ h => h
        try simp only [Act.put, List.setIfInBounds_toArray, List.set_cons_zero, List.set_cons_succ]
        refine wpAnyH_take (i := 50) (oi := ?zqoi50) (v := ?zqv50) ?zqhi50 (by kernel_rfl) (by kernel_rfl) (by kernel_rfl) ?zqhq50 ?zqhy50 hHeld ?zqrest50
        case zqhi50 => simp only [List.getElem?_toArray, List.getElem?_cons_zero, List.getElem?_cons_succ]; rfl
        case zqhy50 =>
          refine Or.inl ⟨by rfl, ?_⟩
          intro wz hSw
          try dsimp only at hSw
          go_simp
          all_goals with_reducible rfl
        case zqhq50 => exact fun _ _ _ h => h
        try simp only [Act.put, List.setIfInBounds_toArray, List.set_cons_zero, List.set_cons_succ]
        refine wpAnyH_done (by kernel_rfl) ?_ _
        have FIN2 := hide ((unhide FIN).drew.trans ((b31.trans (b32.mono b31.size)).mono (unhide FIN).size))
        clear b31 b32 K26 K27 C8 FIN
        go_wp2
        go_ret
        exact ⟨rfl, unhide FIN2⟩

end Go.Proofs.Qxb6601448a
