/- Join on news of the same round or a later one: what it answers, and all that it leaves. -/
import Derived.Test.Qxb6601448aJoinAny
import Derived.Test.Qxb6601448aWEnts
import Derived.Test.Qxb6601448aRange
namespace Go.Proofs.Qxb6601448a
open Go.RowKit
open Go.Maps (has IsMap)
set_option linter.unusedVariables false

theorem fits_one {β : Type} (val : β → Value) (nm : ByteArray) (x : β) : Fits val (mapOf [(nm, val x)]) [(nm, x)] := by
  refine ⟨by simp [List.Nodup], fun kl => ?_, fun p hp zd => ?_⟩
  · rw [has_mapOf]
    simp
  · obtain rfl : p = (nm, x) := by simpa using hp
    exact Maps.atKey_put_same Maps.isMap_empty (key_lit _) _ _
theorem fits_none {β : Type} (val : β → Value) : Fits val (.map []) ([] : List (ByteArray × β)) :=
  ⟨by simp, fun kl => by simp [has], fun p hp => by simp at hp⟩

theorem ass_marks (ss : List ByteArray) (zs : List Int) (vs : List Value) (hs : ∀ i, i < vs.length → ∃ ao n cap, vs.getD i undef = .slice ao n cap) : marks ss zs vs = assTo ss (fun i => mkV (mf zs vs i)) ss.length := by
  unfold marks assTo
  refine List.map_congr_left fun i _ => ?_
  obtain ⟨a, n, c, e⟩ := peers_shape hs i
  simp only [mkV, mf, e, unS]
theorem fits_marks (ss : List ByteArray) (zs : List Int) (vs : List Value) (hs : ∀ i, i < vs.length → ∃ ao n cap, vs.getD i undef = .slice ao n cap) : Fits mkV (mapOf (marks ss zs vs)) (entsTo ss (mf zs vs) ss.length) := by
  rw [ass_marks ss zs vs hs]
  exact fits_ents mkV ss (mf zs vs)
theorem fits_fins (ss : List ByteArray) (zs : List Int) : Fits (Value.int .u64) (mapOf (fins ss zs)) (entsTo ss (ff zs) ss.length) := fits_ents (Value.int .u64) ss (ff zs)

/-- A slice of strings stands while a map grows. -/
theorem StrsAt.map {R : Value → Option (DataW Value × List MemPlace)} {lo hi : Nat} {w w' : World} {v : Value} {ss : List ByteArray} {b n : Nat} {D : DataW Value} (h : StrsAt lo hi w v ss) (hh : hi ≤ w.heap.size) (hm : w.ownsMap Try.prog 9 R b n D) (hg : w.grownBy w' (some b)) : StrsAt lo hi w' v ss := by
  obtain ⟨⟨ao, cap, rfl, h1, h2, h3⟩, h4⟩ := h
  refine ⟨⟨ao, cap, rfl, h1, h2, ?_⟩, h4⟩
  rcases h3 with h3 | h3 | ⟨c, off, h5, hl, hh', h6, h7⟩
  · exact Or.inl h3
  · exact Or.inr (Or.inl h3)
  · refine Or.inr (Or.inr ⟨c, off, h5, hl, hh', h6, fun i hi => ?_⟩)
    have h8 := h7 i hi
    have hne : c ≠ b := map_ne_cells hm h8
    rw [World.cell?_of_block (w := w) (hg.block c (by omega) (by simpa using hne))]
    exact h8

/-- What Join does to a snapshot of round r where the news are of round s, r ≤ s: dm, df the entries that it had, em, gf those of the news. -/
structure New (w1 w' : World) (PS : Nat) (m1 m2 : Option Nat) (r s sv q1 q2 : Int) (sn nm : ByteArray) (pl es : List ByteArray) (dm em : List (ByteArray × MV)) (df gf : List (ByteArray × Int)) (got : Bool) : Prop where
  out : ∃ (mo fo : Option Nat) (n m : Nat) (D F : DataW Value) (bm : List (ByteArray × MV)) (bf : List (ByteArray × Int)) (sn' : ByteArray) (sv' : Int),
    (w'.cell? ⟨PS, 0, none⟩ = some (.int .u64 s) ∧ w'.cell? ⟨PS, 1, none⟩ = some (.map mo) ∧ w'.cell? ⟨PS, 2, none⟩ = some (.map fo) ∧ w'.cell? ⟨PS, 3, none⟩ = some (.string sn') ∧ w'.cell? ⟨PS, 4, none⟩ = some (.int .u64 sv')) ∧
    MapIs mkR 0 w'.heap.size w' mo n D ∧ MapIs fiR 0 w'.heap.size w' fo m F ∧ Fits mkV D (bm ++ freshE es bm em) ∧ Fits (Value.int .u64) F (bf ++ freshE es bf gf) ∧
    got = ((decide (r < s) || decide (0 < (freshE es bm em).length)) || decide (0 < (freshE es bf gf).length)) ∧
    ((r = s ∧ bm = dm ∧ bf = df ∧ sn' = sn ∧ sv' = sv) ∨ (r < s ∧ bf = [] ∧ sn' = nm ∧ sv' = q2 ∧ ∃ pa pn pc, bm = [(nm, q1, pa, pn, pc)] ∧ StrsAt 0 w'.heap.size w' (.slice pa pn pc) (kept pl es)))
  os : w'.os = w1.os
  tape : w'.tape = w1.tape
  output : w'.output = w1.output
  size : w1.heap.size ≤ w'.heap.size
  block : ∀ k, k < w1.heap.size → k ≠ PS → m1 ≠ some k → m2 ≠ some k → w'.heap[k]? = w1.heap[k]?

theorem new_eq {w1 W w' : World} {PS mb fb : Nat} {r sv q1 q2 : Int} {sn nm : ByteArray} {lo1 hi1 nD nF : Nat} {D F E G : DataW Value} {pl es : List ByteArray} {chg : Bool} {dm em : List (ByteArray × MV)} {df gf : List (ByteArray × Int)} (hb : Bk w1 PS #[.int .u64 r, .map (some mb), .map (some fb), .string sn, .int .u64 sv] 59) (M1 : MapIs mkR lo1 hi1 w1 (some mb) nD D) (M2 : MapIs fiR lo1 hi1 w1 (some fb) nF F)
    (fD : Fits mkV D dm) (fF : Fits (Value.int .u64) F df) (fE : Fits mkV E em) (fG : Fits (Value.int .u64) G gf) (h : JoinEnd es D E F G mb fb false W w' chg) (b : Below w1.heap.size w1 W) : New w1 w' PS (some mb) (some fb) r r sv q1 q2 sn nm pl es dm em df gf chg := by
  obtain ⟨n, D', m, F', c1, l1, l2, o1, j1, z1, k1, o2, j2, z2, k2, wo, g1, g2⟩ := h
  obtain ⟨e1, e2, e3, e4, e5⟩ := grown_blocks g1 g2
  have hb' := hb.below b hb.lt
  have p1 : PS ≠ mb := map_ne_cells M1.2.2 (hb.cell 0)
  have p2 : PS ≠ fb := map_ne_cells M2.2.2 (hb.cell 0)
  have hw : Bk w' PS #[.int .u64 r, .map (some mb), .map (some fb), .string sn, .int .u64 sv] 59 := (e5 PS hb'.lt p1 p2).trans hb'
  have hc1 := chg_fresh _ fD fE k1 z1
  have hc2 := chg_fresh _ fF fG k2 z2
  refine ⟨⟨some mb, some fb, n, m, D', F', dm, df, sn, sv, ⟨hw.cell 0, hw.cell 1, hw.cell 2, hw.cell 3, hw.cell 4⟩, ⟨Nat.zero_le _, o1.lt, o1⟩, ⟨Nat.zero_le _, o2.lt, o2⟩, Fits.join _ fD fE j1 z1, Fits.join _ fF fG j2 z2, ?_, Or.inl ⟨rfl, rfl, rfl, rfl, rfl⟩⟩, e1.trans b.os, e2.trans b.tape, e3.trans b.output, Nat.le_trans b.size e4, fun k hk _ k1 k2 => ?_⟩
  · rw [hc2, hc1]
    simp
  · exact (e5 k (Nat.lt_of_lt_of_le hk b.size) (fun e => k1 (by rw [e])) (fun e => k2 (by rw [e]))).trans (b.block k hk)

/-- What the record leaves, for the tail. -/
def Rz (w1 : World) (PS : Nat) (s q1 q2 : Int) (nm : ByteArray) (pl es : List ByteArray) (W : World) (mb fb : Nat) (D0 F0 : DataW Value) : Prop :=
  (W.cell? ⟨PS, 0, none⟩ = some (.int .u64 s) ∧ W.cell? ⟨PS, 1, none⟩ = some (.map (some mb)) ∧ W.cell? ⟨PS, 2, none⟩ = some (.map (some fb)) ∧ W.cell? ⟨PS, 3, none⟩ = some (.string nm) ∧ W.cell? ⟨PS, 4, none⟩ = some (.int .u64 q2)) ∧ w1.grownBy W (some PS) ∧ w1.heap.size ≤ mb ∧ w1.heap.size ≤ fb ∧ mb ≠ fb ∧
  (∃ n, W.ownsMap Try.prog 9 mkR mb n D0) ∧ (∃ n, W.ownsMap Try.prog 9 fiR fb n F0) ∧ F0 = .map [] ∧ ∃ pa pn pc, D0 = mapOf [(nm, mkV (q1, pa, pn, pc))] ∧ StrsAt 0 W.heap.size W (.slice pa pn pc) (kept pl es)

theorem new_gt {w1 W w' : World} {PS mb fb : Nat} {m1 m2 : Option Nat} {r s sv q1 q2 : Int} {sn nm : ByteArray} {D0 F0 E G : DataW Value} {pl es : List ByteArray} {chg : Bool} {dm em : List (ByteArray × MV)} {df gf : List (ByteArray × Int)} (hrs : r < s) (hPS : PS < w1.heap.size)
    (fE : Fits mkV E em) (fG : Fits (Value.int .u64) G gf) (h : JoinEnd es D0 E F0 G mb fb true W w' chg) (x : Rz w1 PS s q1 q2 nm pl es W mb fb D0 F0) : New w1 w' PS m1 m2 r s sv q1 q2 sn nm pl es dm em df gf chg := by
  obtain ⟨n, D', m, F', c1, l1, l2, o1, j1, z1, k1, o2, j2, z2, k2, wo, g1, g2⟩ := h
  obtain ⟨e1, e2, e3, e4, e5⟩ := grown_blocks g1 g2
  obtain ⟨⟨y0, y1, y2, y3, y4⟩, gW, b1, b2, hne, ⟨nn, own1⟩, ⟨mm, own2⟩, rfl, pa, pn, pc, rfl, hst⟩ := x
  have hc : ∀ a : Addr, a.block = PS → w'.cell? a = W.cell? a := fun a ha => World.cell?_of_block (e5 a.block (by rw [ha]; exact Nat.lt_of_lt_of_le hPS gW.size) (by omega) (by omega))
  have f0 : Fits mkV (mapOf [(nm, mkV (q1, pa, pn, pc))]) [(nm, q1, pa, pn, pc)] := fits_one mkV nm (q1, pa, pn, pc)
  have h0 : Fits (Value.int .u64) (.map []) ([] : List (ByteArray × Int)) := fits_none _
  have hc1 := chg_fresh _ f0 fE k1 z1
  have hc2 := chg_fresh _ h0 fG k2 z2
  have own2' : wo.ownsMap Try.prog 9 fiR fb mm (.map []) := ownsMap_block own2 (g1.block fb own2.lt (by simpa using Ne.symm hne))
  have hst2 := ((hst.map (Nat.le_refl _) own1 g1).map g1.size own2' g2).mono (Nat.le_refl _) e4
  refine ⟨⟨some mb, some fb, n, m, D', F', _, _, nm, q2, ⟨(hc _ rfl).trans y0, (hc _ rfl).trans y1, (hc _ rfl).trans y2, (hc _ rfl).trans y3, (hc _ rfl).trans y4⟩, ⟨Nat.zero_le _, o1.lt, o1⟩, ⟨Nat.zero_le _, o2.lt, o2⟩, Fits.join _ f0 fE j1 z1, Fits.join _ h0 fG j2 z2, ?_, Or.inr ⟨hrs, rfl, rfl, rfl, pa, pn, pc, rfl, hst2⟩⟩, e1.trans gW.os, e2.trans gW.tape, e3.trans gW.output, Nat.le_trans gW.size e4, fun k hk kp _ _ => ?_⟩
  · rw [hc2, hc1]
    simp [hrs]
  · exact (e5 k (Nat.lt_of_lt_of_le hk gW.size) (by omega) (by omega)).trans (gW.block k hk (by simpa using kp))

theorem join_new (PS : Nat) (r s sv q1 q2 : Int) (sn nm : ByteArray) (m1 m2 m5 m6 : Option Nat) (x1 : Option Addr) (y1 z1 : Nat) (ve : Value) (pl es : List ByteArray) (D F E G : DataW Value) (dm em : List (ByteArray × MV)) (df gf : List (ByteArray × Int)) (w1 : World) {lo hi lv hv lo1 hi1 nD nF nE nG : Nat}
    (hr : 0 ≤ r) (hs : 0 < s) (hnm : nm.size ≤ maxLen) (hb : Bk w1 PS #[.int .u64 r, .map m1, .map m2, .string sn, .int .u64 sv] 59) (hf : 0 < r → m1 ≠ none ∧ m2 ≠ none) (hd : ∀ b, m1 = some b → m2 ≠ some b)
    (M1 : MapIs mkR lo1 hi1 w1 m1 nD D) (M2 : MapIs fiR lo1 hi1 w1 m2 nF F) (M5 : MapIs mkR lo hi w1 m5 nE E) (M6 : MapIs fiR lo hi w1 m6 nG G) (hp : StrsAt lv hv w1 (.slice x1 y1 z1) pl) (he : StrsAt lv hv w1 ve es)
    (fD : Fits mkV D dm) (fF : Fits (Value.int .u64) F df) (fE : Fits mkV E em) (fG : Fits (Value.int .u64) G gf) (g1 : hv ≤ lo1) (g2 : hi1 ≤ lo) (g3 : hi ≤ w1.heap.size) (g4 : hv ≤ PS) (g5 : PS < lo) (g6 : hi1 ≤ w1.heap.size) (g7 : hv ≤ w1.heap.size) (n1 : nD + nE + 1 < maxLen) (n2 : nF + nG + 1 < maxLen) (hrs : r ≤ s) :
    Calls Try.prog 22 #[.pointer (some ⟨PS, 0, none⟩), .agg #[.int .u64 s, .map m5, .map m6], .agg #[.string nm, .slice x1 y1 z1, ve], .int .u64 q1, .int .u64 q2] w1 fun e w' => ∃ got, e = .returned (.bool got) ∧ New w1 w' PS m1 m2 r s sv q1 q2 sn nm pl es dm em df gf got := by
  have hlt := hb.lt
  have zE := size_is M5
  have zG := size_is M6
  rcases Int.lt_or_eq_of_le hrs with hsr | hsr
  · have hrec : ∀ n, Calls Try.prog 49 #[.pointer (some ⟨PS, 0, none⟩), .int .u64 s, .agg #[.string nm, .slice x1 y1 z1, ve], .int .u64 q1, .int .u64 q2] (boxed w1 s m5 m6 nm (.slice x1 y1 z1) ve n) fun e W => e = .returned (.tuple #[]) ∧ ∃ mb fb n0 k0 D0 F0, Set0 W w1.heap.size (w1.heap.size + 1) PS mb fb m5 m6 nm (.slice x1 y1 z1) ve es lo hi lv hv nE nG n0 k0 E G D0 F0 ∧ Rz w1 PS s q1 q2 nm pl es W mb fb D0 F0 := fun n => by
      have b : Below w1.heap.size w1 (boxed w1 s m5 m6 nm (.slice x1 y1 z1) ve n) := boxed_below n
      have hz := b.size
      have hb' := hb.below b hlt
      refine (record_any PS s q1 q2 nm x1 y1 z1 ve pl es _ _ _ _ _ _ (hp.same (Same.below b g7)) (he.same (Same.below b g7)) (by omega) hnm (by omega) (hb'.cell 0) (hb'.cell 1) (hb'.cell 2) (hb'.cell 3) (hb'.cell 4) (hb'.free 0) (hb'.free 1) (hb'.free 2) (hb'.free 3) (hb'.free 4)).mono ?_
      rintro e W ⟨rfl, mb, fb, pa, pn, pc, ⟨c0, c1, c2, c3, c4⟩, R1, R2, hne, hst, g⟩
      have l1 := R1.1
      have l3 := R2.1
      have hzW := g.size
      have h6 := (boxed_6 (w1 := w1) (s := s) (m5 := m5) (m6 := m6) (nm := nm) (vp := .slice x1 y1 z1) (ve := ve) n).grown g (by simp; omega)
      have h7 := (boxed_7 (w1 := w1) (s := s) (m5 := m5) (m6 := m6) (nm := nm) (vp := .slice x1 y1 z1) (ve := ve) n).grown g (by simp; omega)
      have hsv : Same lv hv w1 W := (Same.below b g7).trans fun k h1 h2 => g.block k (by omega) (by simp; omega)
      have hsm : Same lo hi w1 W := (Same.below b g3).trans fun k h1 h2 => g.block k (by omega) (by simp; omega)
      refine ⟨rfl, mb, fb, 1, 0, _, _, ⟨h6.cell 1, h6.cell 2, h7.cell 0, h7.cell 1, h7.cell 2, c1, c2, ⟨he.same hsv, Or.inr (by omega), by omega, M5.same hsm, R1.2.2, Or.inr (by omega), by omega, by omega, isMap_mapOf _⟩,
        ⟨he.same hsv, Or.inr (by omega), by omega, M6.same hsm, R2.2.2, Or.inr (by omega), by omega, by omega, Maps.isMap_empty⟩, hne⟩, ⟨c0, c1, c2, c3, c4⟩, grown_from b g, by omega, by omega, hne, ⟨_, R1.2.2⟩, ⟨_, R2.2.2⟩, rfl, pa, pn, pc, rfl, hst.mono (Nat.zero_le _) (Nat.le_refl _)⟩
    refine (join_gt PS s r q1 q2 m5 m6 nm (.slice x1 y1 z1) ve es w1 E G (fun W mb fb D0 F0 => Rz w1 PS s q1 q2 nm pl es W mb fb D0 F0) hr hsr hlt (hb.cell 0) (hide hrec)).mono ?_
    rintro e w' ⟨chg, W, mb, fb, D0, F0, rfl, hJ, hx⟩
    exact ⟨chg, rfl, new_gt hsr hlt fE fG hJ hx⟩
  · subst hsr
    obtain ⟨k1, k2⟩ := hf hs
    cases m1 with
    | none => exact absurd rfl k1
    | some mb =>
    cases m2 with
    | none => exact absurd rfl k2
    | some fb =>
    have l1 := M1.1
    have l2 := M1.2.1
    have l3 := M2.1
    have l4 := M2.2.1
    have hset : ∀ n, (fun W => Set0 W w1.heap.size (w1.heap.size + 1) PS mb fb m5 m6 nm (.slice x1 y1 z1) ve es lo hi lv hv nE nG nD nF E G D F ∧ Below w1.heap.size w1 W) (boxed w1 r m5 m6 nm (.slice x1 y1 z1) ve n) := fun n => by
      have b : Below w1.heap.size w1 (boxed w1 r m5 m6 nm (.slice x1 y1 z1) ve n) := boxed_below n
      have hz := b.size
      have hb' := hb.below b hlt
      have hve := he.same (Same.below b g7)
      refine ⟨⟨(boxed_6 n).cell 1, (boxed_6 n).cell 2, (boxed_7 n).cell 0, (boxed_7 n).cell 1, (boxed_7 n).cell 2, hb'.cell 1, hb'.cell 2, ⟨hve, Or.inr (by omega), by omega, M5.same (Same.below b g3), ownsMap_block M1.2.2 (b.block mb (by omega)), Or.inl (by omega), by omega, by omega, isMap_own M1.2.2⟩,
        ⟨hve, Or.inr (by omega), by omega, M6.same (Same.below b g3), ownsMap_block M2.2.2 (b.block fb (by omega)), Or.inl (by omega), by omega, by omega, isMap_own M2.2.2⟩, fun e => hd mb rfl (by rw [e])⟩, b⟩
    refine (join_eq PS mb fb r q1 q2 m5 m6 nm (.slice x1 y1 z1) ve es w1 E G D F hs hlt (hb.cell 0) (hide hset)).mono ?_
    rintro e w' ⟨chg, W, rfl, hJ, b, _⟩
    exact ⟨chg, rfl, new_eq hb M1 M2 fD fF fE fG hJ b⟩

end Go.Proofs.Qxb6601448a
