/- What lies in memory in the law FnJoinWholeAnswer: the sources, and the snapshot behind Join. -/
import Derived.Test.Qxb6601448aWJoin
import Derived.Test.Qxb6601448aWMerge
import Derived.Test.Qxb6601448aWMatch
import Derived.Test.Qxb6601448aWPeers
namespace Go.Proofs.Qxb6601448a
open Go.RowKit
open Go.Maps (has IsMap)
set_option linter.unusedVariables false

/-- The copied arguments, from the first new block on, below L. -/
structure Src (w W : World) (L : Nat) (r s sv : Int) (sn nm : ByteArray) (a1 a2 a3 a4 a5 b1 b2 b3 b4 b5 vp ve : Value) (na nb : News) (vsa vsb : List Value) (pl es : List ByteArray) : Prop where
  T : Trio w W r s sv sn nm a1 a2 a3 a4 a5 b1 b2 b3 b4 b5 vp ve
  A : NewsAt (w.heap.size + 3) L W a1 a2 a3 a4 a5 na
  ga : RowAt 24 (w.heap.size + 3) L W a3 vsa
  gs : StrsEach (w.heap.size + 3) L W vsa na.mp
  B : NewsAt (w.heap.size + 3) L W b1 b2 b3 b4 b5 nb
  gb : RowAt 24 (w.heap.size + 3) L W b3 vsb
  hs : StrsEach (w.heap.size + 3) L W vsb nb.mp
  P : StrsAt (w.heap.size + 3) L W vp pl
  E : StrsAt (w.heap.size + 3) L W ve es
  o1 : w.heap.size + 3 ≤ L
  o2 : L ≤ W.heap.size

section
variable {w W W2 : World} {L : Nat} {r s sv : Int} {sn nm : ByteArray} {a1 a2 a3 a4 a5 b1 b2 b3 b4 b5 vp ve : Value} {na nb : News} {vsa vsb : List Value} {pl es : List ByteArray}

theorem Src.keep (h : Src w W L r s sv sn nm a1 a2 a3 a4 a5 b1 b2 b3 b4 b5 vp ve na nb vsa vsb pl es) (hk : ∀ k, k < L → W2.heap[k]? = W.heap[k]?) (hz : W.heap.size ≤ W2.heap.size) (hb : Below w.heap.size w W2) : Src w W2 L r s sv sn nm a1 a2 a3 a4 a5 b1 b2 b3 b4 b5 vp ve na nb vsa vsb pl es := by
  have hs : Same (w.heap.size + 3) L W W2 := fun k _ h2 => hk k h2
  have o1 := h.o1
  exact ⟨⟨(hk _ (by omega)).trans h.T.x, (hk _ (by omega)).trans h.T.y, (hk _ (by omega)).trans h.T.z, hb⟩, h.A.same hs, h.ga.same hs, h.gs.same hs, h.B.same hs, h.gb.same hs, h.hs.same hs, h.P.same hs, h.E.same hs, h.o1, Nat.le_trans h.o2 hz⟩

theorem Src.step (h : Src w W L r s sv sn nm a1 a2 a3 a4 a5 b1 b2 b3 b4 b5 vp ve na nb vsa vsb pl es) (b : Below W.heap.size W W2) : Src w W2 L r s sv sn nm a1 a2 a3 a4 a5 b1 b2 b3 b4 b5 vp ve na nb vsa vsb pl es :=
  h.keep (fun k hk => b.block k (by have := h.o2; omega)) b.size (h.T.step b).below

theorem Src.below (h : Src w W L r s sv sn nm a1 a2 a3 a4 a5 b1 b2 b3 b4 b5 vp ve na nb vsa vsb pl es) : Below w.heap.size w W := h.T.below

/-- The boxes of the news and of the site, as facts for the walk. -/
abbrev SB (b6 b7 : Nat) (c0 c1 c2 c3 c4 c5 d0 d1 d2 : Value) (w' : World) : Prop :=
  w'.cell? ⟨b6, 0, none⟩ = some c0 ∧ w'.cell? ⟨b6, 1, none⟩ = some c1 ∧ w'.cell? ⟨b6, 2, none⟩ = some c2 ∧ w'.cell? ⟨b6, 3, none⟩ = some c3 ∧ w'.cell? ⟨b6, 4, none⟩ = some c4 ∧ w'.cell? ⟨b6, 5, none⟩ = some c5 ∧ w'.cell? ⟨b7, 0, none⟩ = some d0 ∧ w'.cell? ⟨b7, 1, none⟩ = some d1 ∧ w'.cell? ⟨b7, 2, none⟩ = some d2
theorem SB.step {b6 b7 : Nat} {c0 c1 c2 c3 c4 c5 d0 d1 d2 : Value} {w1 w2 : World} (h : SB b6 b7 c0 c1 c2 c3 c4 c5 d0 d1 d2 w1) (b : Below w1.heap.size w1 w2) : SB b6 b7 c0 c1 c2 c3 c4 c5 d0 d1 d2 w2 := by
  obtain ⟨e0, e1, e2, e3, e4, e5, e6, e7, e8⟩ := h
  have hc : ∀ a v, w1.cell? a = some v → w2.cell? a = some v := fun a v h => (b.cell (cell_lt h)).trans h
  exact ⟨hc _ _ e0, hc _ _ e1, hc _ _ e2, hc _ _ e3, hc _ _ e4, hc _ _ e5, hc _ _ e6, hc _ _ e7, hc _ _ e8⟩
theorem SB.alloc {b6 b7 : Nat} {c0 c1 c2 c3 c4 c5 d0 d1 d2 : Value} {w1 : World} (h : SB b6 b7 c0 c1 c2 c3 c4 c5 d0 d1 d2 w1) (o : Obj) : SB b6 b7 c0 c1 c2 c3 c4 c5 d0 d1 d2 (w1.alloc o) := h.step ((Below.refl _ _).alloc (Nat.le_refl _) _)
theorem Src.sb (h : Src w W L r s sv sn nm a1 a2 a3 a4 a5 b1 b2 b3 b4 b5 vp ve na nb vsa vsb pl es) : SB (w.heap.size + 1) (w.heap.size + 2) (.int .u64 s) b1 b2 b3 b4 b5 (.string nm) vp ve W :=
  ⟨h.T.y.cell 0, h.T.y.cell 1, h.T.y.cell 2, h.T.y.cell 3, h.T.y.cell 4, h.T.y.cell 5, h.T.z.cell 0, h.T.z.cell 1, h.T.z.cell 2⟩

/-- The snapshot's five cells and another three, as facts for the walk. -/
abbrev S8 (p q : Nat) (j0 j1 j2 : Nat) (c0 c1 c2 c3 c4 d0 d1 d2 : Value) (w' : World) : Prop :=
  w'.cell? ⟨p, 0, none⟩ = some c0 ∧ w'.cell? ⟨p, 1, none⟩ = some c1 ∧ w'.cell? ⟨p, 2, none⟩ = some c2 ∧ w'.cell? ⟨p, 3, none⟩ = some c3 ∧ w'.cell? ⟨p, 4, none⟩ = some c4 ∧ w'.cell? ⟨q, j0, none⟩ = some d0 ∧ w'.cell? ⟨q, j1, none⟩ = some d1 ∧ w'.cell? ⟨q, j2, none⟩ = some d2
theorem S8.step {p q j0 j1 j2 : Nat} {c0 c1 c2 c3 c4 d0 d1 d2 : Value} {w1 w2 : World} (h : S8 p q j0 j1 j2 c0 c1 c2 c3 c4 d0 d1 d2 w1) (b : Below w1.heap.size w1 w2) : S8 p q j0 j1 j2 c0 c1 c2 c3 c4 d0 d1 d2 w2 := by
  obtain ⟨e0, e1, e2, e3, e4, e5, e6, e7⟩ := h
  have hc : ∀ a v, w1.cell? a = some v → w2.cell? a = some v := fun a v h => (b.cell (cell_lt h)).trans h
  exact ⟨hc _ _ e0, hc _ _ e1, hc _ _ e2, hc _ _ e3, hc _ _ e4, hc _ _ e5, hc _ _ e6, hc _ _ e7⟩

/-- The snapshot at PS, its maps of just these entries. -/
structure SnapIs (W : World) (PS : Nat) (r : Int) (sn : ByteArray) (sv : Int) (mo fo : Option Nat) (wm : List (ByteArray × MV)) (wf : List (ByteArray × Int)) : Prop where
  cells : W.cell? ⟨PS, 0, none⟩ = some (.int .u64 r) ∧ W.cell? ⟨PS, 1, none⟩ = some (.map mo) ∧ W.cell? ⟨PS, 2, none⟩ = some (.map fo) ∧ W.cell? ⟨PS, 3, none⟩ = some (.string sn) ∧ W.cell? ⟨PS, 4, none⟩ = some (.int .u64 sv)
  maps : ∃ n m D F, MapIs mkR 0 W.heap.size W mo n D ∧ MapIs fiR 0 W.heap.size W fo m F ∧ Fits mkV D wm ∧ Fits (Value.int .u64) F wf

theorem SnapIs.step {PS : Nat} {r : Int} {sn : ByteArray} {sv : Int} {mo fo : Option Nat} {wm : List (ByteArray × MV)} {wf : List (ByteArray × Int)} (h : SnapIs W PS r sn sv mo fo wm wf) (b : Below W.heap.size W W2) : SnapIs W2 PS r sn sv mo fo wm wf := by
  obtain ⟨⟨e0, e1, e2, e3, e4⟩, n, m, D, F, h1, h2, h3, h4⟩ := h
  have hc : ∀ a v, W.cell? a = some v → W2.cell? a = some v := fun a v h => (b.cell (cell_lt h)).trans h
  have hs := Same.below (lo := 0) b (Nat.le_refl _)
  exact ⟨⟨hc _ _ e0, hc _ _ e1, hc _ _ e2, hc _ _ e3, hc _ _ e4⟩, n, m, D, F, (h1.same hs).mono (Nat.le_refl _) b.size, (h2.same hs).mono (Nat.le_refl _) b.size, h3, h4⟩

/-- The law's two last calls, where the snapshot holds what the model lists. -/
theorem SnapIs.finals {PS : Nat} {r : Int} {sn : ByteArray} {sv : Int} {mo fo : Option Nat} {wm : List (ByteArray × MV)} {wf : List (ByteArray × Int)} (h : SnapIs W PS r sn sv mo fo wm wf) {v : Value} {lo hi : Nat} (he : EntsAt 2 fCells lo hi W v wf) (hh : hi ≤ W.heap.size) :
    Calls Try.prog 27 #[.map fo, v] W fun e w' => e = .returned (.bool true) ∧ Below W.heap.size W w' := by
  obtain ⟨_, n, m, D, F, h1, h2, h3, h4⟩ := h
  exact finalsMatch_true fo v wf F W h2 (he.mono (Nat.zero_le _) hh) (Nat.le_refl _) h4

/-- Each entry's peers can be read. -/
def Readable (H : Nat) (W : World) (es : List (ByteArray × MV)) : Prop := ∀ p ∈ es, ∃ sl, StrsAt 0 H W (.slice p.2.2.1 p.2.2.2.1 p.2.2.2.2) sl
theorem Readable.same {H : Nat} {es : List (ByteArray × MV)} (h : Readable H W es) (hs : Same 0 H W W2) : Readable H W2 es := fun p hp => by
  obtain ⟨sl, h1⟩ := h p hp
  exact ⟨sl, h1.same hs⟩
theorem Readable.mono {H H' : Nat} {es : List (ByteArray × MV)} (h : Readable H W es) (hh : H ≤ H') : Readable H' W es := fun p hp => by
  obtain ⟨sl, h1⟩ := h p hp
  exact ⟨sl, h1.mono (Nat.le_refl _) hh⟩
theorem Readable.app {H : Nat} {es fs : List (ByteArray × MV)} (h : Readable H W es) (k : Readable H W fs) : Readable H W (es ++ fs) := fun p hp => by
  rcases List.mem_append.1 hp with hp | hp
  · exact h p hp
  · exact k p hp
theorem Readable.fresh {H : Nat} {xs : List ByteArray} {es fs : List (ByteArray × MV)} (k : Readable H W fs) : Readable H W (freshE xs es fs) := fun p hp => k p (List.mem_filter.1 hp).1
theorem StrsAt.nil {lo hi : Nat} : StrsAt lo hi W (.slice none 0 0) [] := ⟨⟨none, 0, rfl, Nat.le_refl _, by simp, Or.inl ⟨rfl, rfl, rfl⟩⟩, by simp⟩
theorem readable_ents {lo hi : Nat} {ss : List ByteArray} {zs : List Int} {vs : List Value} {sss : List (List ByteArray)} (h : StrsEach lo hi W vs sss) (k : Nat) : Readable hi W (entsTo ss (mf zs vs) k) := fun p hp => by
  obtain ⟨i, _, rfl⟩ := List.mem_map.1 hp
  show ∃ sl, StrsAt 0 hi W (.slice (unS (vs.getD i (.slice none 0 0))).1 (unS (vs.getD i (.slice none 0 0))).2.1 (unS (vs.getD i (.slice none 0 0))).2.2) sl
  by_cases hi' : i < vs.length
  · have h1 := h.2 i hi'
    obtain ⟨ao, cap, e⟩ := h1.shape
    have e2 : vs.getD i (.slice none 0 0) = .slice ao (sss.getD i []).length cap := by
      rw [← e]
      simp [hi']
    rw [e] at h1
    rw [e2]
    exact ⟨_, h1.mono (Nat.zero_le _) (Nat.le_refl _)⟩
  · have e2 : vs.getD i (.slice none 0 0) = .slice none 0 0 := by simp [Nat.le_of_not_lt hi']
    rw [e2]
    exact ⟨[], StrsAt.nil⟩

theorem agree_all {H : Nat} {D : DataW Value} {wm : List (ByteArray × MV)} (h : Fits mkV D wm) (hr : Readable H W wm) : ∀ p ∈ wm, Agrees H W D p := fun p hp => by
  obtain ⟨sl, h1⟩ := hr p hp
  exact ⟨(h.keys _).2 ⟨p, hp, rfl⟩, p.2.2.1, p.2.2.2.1, p.2.2.2.2, sl, h.vals p hp, h1, h1⟩

theorem SnapIs.markers {PS : Nat} {r : Int} {sn : ByteArray} {sv : Int} {mo fo : Option Nat} {wm : List (ByteArray × MV)} {wf : List (ByteArray × Int)} (h : SnapIs W PS r sn sv mo fo wm wf) {v : Value} {lo hi H : Nat} (he : EntsAt 3 mCells lo hi W v wm) (hh : hi ≤ W.heap.size) (hr : Readable H W wm) (hH : H ≤ W.heap.size) :
    Calls Try.prog 26 #[.map mo, v] W fun e w' => e = .returned (.bool true) ∧ Below W.heap.size W w' := by
  obtain ⟨_, n, m, D, F, h1, h2, h3, h4⟩ := h
  exact markersMatch_true mo v wm D W h1 (he.mono (Nat.zero_le _) hh) (Nat.le_refl _) hH (h3.size h1) (agree_all h3 hr)

theorem fresh_one (xs : List ByteArray) (nm : ByteArray) (x y : MV) (em : List (ByteArray × MV)) : freshE xs [(nm, x)] em = freshE xs [(nm, y)] em := rfl

/-- The same where the model's own marker has peers of its own making. -/
theorem SnapIs.markers2 {PS : Nat} {r : Int} {sn : ByteArray} {sv : Int} {mo fo : Option Nat} {q : Int} {pa pb : Option Addr} {pn pc qn qc : Nat} {ks : List ByteArray} {em : List (ByteArray × MV)} {wf : List (ByteArray × Int)} (h : SnapIs W PS r sn sv mo fo ([(nm, q, pa, pn, pc)] ++ freshE es [(nm, q, pa, pn, pc)] em) wf) {v : Value} {lo hi H : Nat} (he : EntsAt 3 mCells lo hi W v ([(nm, q, pb, qn, qc)] ++ freshE es [(nm, q, pb, qn, qc)] em)) (hh : hi ≤ W.heap.size) (hr : Readable H W em) (hH : H ≤ W.heap.size) (h1 : StrsAt 0 H W (.slice pa pn pc) ks) (h2 : StrsAt 0 H W (.slice pb qn qc) ks) :
    Calls Try.prog 26 #[.map mo, v] W fun e w' => e = .returned (.bool true) ∧ Below W.heap.size W w' := by
  obtain ⟨_, n, m, D, F, g1, g2, g3, g4⟩ := h
  have hsz : Maps.size D = ([(nm, q, pb, qn, qc)] ++ freshE es [(nm, q, pb, qn, qc)] em).length := by
    rw [g3.size g1, fresh_one es nm (q, pa, pn, pc) (q, pb, qn, qc) em]
    rfl
  refine markersMatch_true mo v _ D W g1 (he.mono (Nat.zero_le _) hh) (Nat.le_refl _) hH hsz fun p hp => ?_
  rcases List.mem_append.1 hp with hp | hp
  · obtain rfl : p = (nm, q, pb, qn, qc) := by simpa using hp
    exact ⟨(g3.keys _).2 ⟨(nm, q, pa, pn, pc), by simp, rfl⟩, pa, pn, pc, ks, g3.vals (nm, q, pa, pn, pc) (by simp), h2, h1⟩
  · have hp' : p ∈ [(nm, q, pa, pn, pc)] ++ freshE es [(nm, q, pa, pn, pc)] em := List.mem_append.2 (Or.inr (by rw [fresh_one es nm (q, pa, pn, pc) (q, pb, qn, qc) em]; exact hp))
    obtain ⟨sl, k1⟩ := hr.fresh p hp
    exact ⟨(g3.keys _).2 ⟨p, hp', rfl⟩, p.2.2.1, p.2.2.2.1, p.2.2.2.2, sl, g3.vals p hp', k1, k1⟩

/-- Join's outcome. -/
def Outcome (W : World) (PS : Nat) (r s sv q1 q2 : Int) (sn nm : ByteArray) (pl es : List ByteArray) (dm em : List (ByteArray × MV)) (df gf : List (ByteArray × Int)) (got : Bool) : Prop :=
  ((s = 0 ∨ s < r) ∧ got = false ∧ ∃ mo fo, SnapIs W PS r sn sv mo fo dm df) ∨
  (0 < s ∧ r = s ∧ got = (decide (0 < (freshE es dm em).length) || decide (0 < (freshE es df gf).length)) ∧ ∃ mo fo, SnapIs W PS s sn sv mo fo (dm ++ freshE es dm em) (df ++ freshE es df gf)) ∨
  (0 < s ∧ r < s ∧ got = true ∧ ∃ mo fo pa pn pc, SnapIs W PS s nm q2 mo fo ([(nm, q1, pa, pn, pc)] ++ freshE es [(nm, q1, pa, pn, pc)] em) ([] ++ freshE es [] gf) ∧ StrsAt 0 W.heap.size W (.slice pa pn pc) (kept pl es))

theorem New.outcome {w1 : World} {PS : Nat} {m1 m2 : Option Nat} {q1 q2 : Int} {dm em : List (ByteArray × MV)} {df gf : List (ByteArray × Int)} {got : Bool} (hs : 0 < s) (h : New w1 W PS m1 m2 r s sv q1 q2 sn nm pl es dm em df gf got) : Outcome W PS r s sv q1 q2 sn nm pl es dm em df gf got := by
  obtain ⟨mo, fo, n, m, D, F, bm, bf, sn', sv', hc, h1, h2, h3, h4, hg, hcase⟩ := h.out
  rcases hcase with ⟨rfl, rfl, rfl, rfl, rfl⟩ | ⟨hrs, rfl, rfl, rfl, pa, pn, pc, rfl, hst⟩
  · exact Or.inr (Or.inl ⟨hs, rfl, by rw [hg]; simp, mo, fo, hc, n, m, D, F, h1, h2, h3, h4⟩)
  · exact Or.inr (Or.inr ⟨hs, hrs, by rw [hg]; simp [hrs], mo, fo, pa, pn, pc, ⟨hc, n, m, D, F, h1, h2, h3, h4⟩, hst⟩)

/-- Join in the law. -/
theorem join_out (PS : Nat) (q1 q2 : Int) (m1 m2 m5 m6 : Option Nat) (x1 x2 : Option Addr) (y1 z1 y2 z2 : Nat) (w14 w15 w16 : World)
    (h : Src w w14 L r s sv sn nm a1 a2 a3 a4 a5 b1 b2 b3 b4 b5 (.slice x1 y1 z1) (.slice x2 y2 z2) na nb vsa vsb pl es) (hr : 0 ≤ r) (hs : 0 ≤ s) (hnm : nm.size ≤ maxLen)
    (hb : Bk w14 PS #[.int .u64 r, .map m1, .map m2, .string sn, .int .u64 sv] 59) (hf : 0 < r → m1 ≠ none ∧ m2 ≠ none) (hd : ∀ b, m1 = some b → m2 ≠ some b) (hLP : L ≤ PS)
    (M1 : MapIs mkR L w14.heap.size w14 m1 na.mn.length (mapOf (marks na.mn na.ms vsa))) (M2 : MapIs fiR L w14.heap.size w14 m2 na.fn.length (mapOf (fins na.fn na.fv)))
    (M5 : MapIs mkR w14.heap.size w15.heap.size w15 m5 nb.mn.length (mapOf (marks nb.mn nb.ms vsb))) (M6 : MapIs fiR w14.heap.size w15.heap.size w15 m6 nb.fn.length (mapOf (fins nb.fn nb.fv)))
    (b15 : Below w14.heap.size w14 w15) (b16 : Below w15.heap.size w15 w16) (n1 : na.mn.length ≤ 4096) (n2 : na.fn.length ≤ 4096) (n3 : nb.mn.length ≤ 4096) (n4 : nb.fn.length ≤ 4096) :
    Calls Try.prog 22 #[.pointer (some ⟨PS, 0, none⟩), .agg #[.int .u64 s, .map m5, .map m6], .agg #[.string nm, .slice x1 y1 z1, .slice x2 y2 z2], .int .u64 q1, .int .u64 q2] w16 fun e w' => ∃ got, e = .returned (.bool got) ∧ SB (w.heap.size + 1) (w.heap.size + 2) (.int .u64 s) b1 b2 b3 b4 b5 (.string nm) (.slice x1 y1 z1) (.slice x2 y2 z2) w' ∧
      Src w w' L r s sv sn nm a1 a2 a3 a4 a5 b1 b2 b3 b4 b5 (.slice x1 y1 z1) (.slice x2 y2 z2) na nb vsa vsb pl es ∧ PS < w'.heap.size ∧
      Outcome w' PS r s sv q1 q2 sn nm pl es (entsTo na.mn (mf na.ms vsa) na.mn.length) (entsTo nb.mn (mf nb.ms vsb) nb.mn.length) (entsTo na.fn (ff na.fv) na.fn.length) (entsTo nb.fn (ff nb.fv) nb.fn.length) got := by
  have hlt := hb.lt
  have z15 := b15.size
  have z16 := b16.size
  have ho1 := h.o1
  have ho2 := h.o2
  have bb : Below w14.heap.size w14 w16 := b15.trans (b16.mono z15)
  have hb' := hb.below bb hlt
  have S16 := (h.step b15).step b16
  have fD := fits_marks na.mn na.ms vsa (fun i hi => by obtain ⟨ao, cap, e⟩ := (h.gs.2 i hi).shape; exact ⟨ao, _, cap, e⟩)
  have fE := fits_marks nb.mn nb.ms vsb (fun i hi => by obtain ⟨ao, cap, e⟩ := (h.hs.2 i hi).shape; exact ⟨ao, _, cap, e⟩)
  have fF := fits_fins na.fn na.fv
  have fG := fits_fins nb.fn nb.fv
  by_cases hold : s = 0 ∨ s < r
  · refine (join_no PS s r q1 q2 m5 m6 nm (.slice x1 y1 z1) (.slice x2 y2 z2) w16 hold hb'.lt (hb'.cell 0)).mono ?_
    rintro e w' ⟨rfl, b⟩
    have S' := S16.step b
    have hz := b.size
    have hb2 := hb'.below b hb'.lt
    have hs2 : ∀ lo, Same lo w14.heap.size w14 w' := fun lo => Same.below (bb.trans (b.mono (by omega))) (Nat.le_refl _)
    exact ⟨false, rfl, S'.sb, S', by omega, Or.inl ⟨hold, rfl, m1, m2, ⟨hb2.cell 0, hb2.cell 1, hb2.cell 2, hb2.cell 3, hb2.cell 4⟩, _, _, _, _, (M1.same (hs2 _)).mono (Nat.zero_le _) (by omega), (M2.same (hs2 _)).mono (Nat.zero_le _) (by omega), fD, fF⟩⟩
  · have hs1 : 0 < s := by omega
    have hrs : r ≤ s := by omega
    have hs6 : Same w14.heap.size w15.heap.size w15 w16 := Same.below b16 (Nat.le_refl _)
    have hs1' : ∀ lo, Same lo w14.heap.size w14 w16 := fun lo => Same.below bb (Nat.le_refl _)
    refine (join_new PS r s sv q1 q2 sn nm m1 m2 m5 m6 x1 y1 z1 (.slice x2 y2 z2) pl es _ _ _ _ _ _ _ _ w16 hr hs1 hnm hb' hf hd (M1.same (hs1' _)) (M2.same (hs1' _)) (M5.same hs6) (M6.same hs6) S16.P S16.E fD fF fE fG (Nat.le_refl _) (Nat.le_refl _) z16 hLP hlt (by omega) (by omega) (by unfold maxLen; omega) (by unfold maxLen; omega) hrs).mono ?_
    rintro e w' ⟨got, rfl, hN⟩
    have hz := hN.size
    have k1 : ∀ k, k < L → m1 ≠ some k := fun k hk e => by subst e; have := M1.1; omega
    have k2 : ∀ k, k < L → m2 ≠ some k := fun k hk e => by subst e; have := M2.1; omega
    have hk : ∀ k, k < L → w'.heap[k]? = w16.heap[k]? := fun k hk => hN.block k (by omega) (by omega) (k1 k hk) (k2 k hk)
    have hw := S16.below.size
    have S' := S16.keep hk hz ⟨hN.os.trans S16.below.os, hN.tape.trans S16.below.tape, hN.output.trans S16.below.output, by omega, fun k h1 => (hk k (by omega)).trans (S16.below.block k h1)⟩
    exact ⟨got, rfl, S'.sb, S', by omega, hN.outcome hs1⟩

theorem ents_len {β : Type} {c : Nat} {cells : ByteArray × β → List Value} {lo hi : Nat} {a : Option Addr} {n cap : Nat} {es : List (ByteArray × β)} (h : EntsAt c cells lo hi W (.slice a n cap) es) : n = es.length := by
  obtain ⟨g, cap', e, _⟩ := h
  injection e

/-- The model's own marker, laid alone. -/
theorem ents_one {lo hi : Nat} {q : Int} {a : Option Addr} {n c : Nat} (hnm : nm.size ≤ maxLen) (h1 : lo ≤ W.heap.size) (h2 : W.heap.size < hi) : EntsAt 3 mCells lo hi (W.alloc (.cells #[.string nm, .int .u64 q, .slice a n c] 64)) (.slice (some ⟨W.heap.size, 0, none⟩) 1 1) [(nm, q, a, n, c)] := by
  refine ⟨W.heap.size, 1, rfl, h1, h2, Nat.le_refl _, by simp, fun p hp => ?_, fun i j hj hi => ?_⟩
  · obtain rfl : p = (nm, q, a, n, c) := by simpa using hp
    exact hnm
  · obtain rfl : i = 0 := by simpa using hi
    match j, hj with
    | 0, _ => simp [go_sem, mCells]
    | 1, _ => simp [go_sem, mCells]
    | 2, _ => simp [go_sem, mCells]
theorem ents_none {lo hi g c : Nat} (h1 : lo ≤ g) (h2 : g < hi) : EntsAt 2 fCells lo hi W (.slice (some ⟨g, 0, none⟩) 0 c) ([] : List (ByteArray × Int)) :=
  ⟨g, c, rfl, h1, h2, Nat.zero_le _, Nat.zero_le _, by simp, fun i j hj hi => by simp at hi⟩

end

theorem srcA_shape {lo hi : Nat} {W : World} {vs : List Value} {sss : List (List ByteArray)} (h : StrsEach lo hi W vs sss) : ∀ i, i < vs.length → ∃ ao n cap, vs.getD i undef = .slice ao n cap := fun i hi => by
  obtain ⟨ao, cap, e⟩ := (h.2 i hi).shape
  exact ⟨ao, _, cap, e⟩
theorem fit_le {a b : Nat} (h : Hid (decide (a ≤ 4096 ∧ b ≤ 4096) = true)) : a ≤ 4096 ∧ b ≤ 4096 := of_decide_eq_true h.out

end Go.Proofs.Qxb6601448a
