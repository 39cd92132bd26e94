/- What lies in memory when Join is called in its law, and behind it. -/
import Derived.Test.Qxb6601448aJoinAny
namespace Go.Proofs.Qxb6601448a
open Go.RowKit
open Go.Maps (has IsMap)
set_option linter.unusedVariables false

structure Pack (w W : World) (L1 L2 L3 L4 PS : Nat) (r s sv : Int) (sn nm : ByteArray) (m1 m2 m3 m4 m5 m6 : Option Nat) (vp ve : Value) (pl es : List ByteArray) (nD nF nE nG : Nat) (D F E G : DataW Value) : Prop where
  n12 : Nx W L3 (.int .u64 r) (.map m3) (.map m4)
  n13 : Nx W L4 (.int .u64 s) (.map m5) (.map m6)
  z : Bk W (w.heap.size + 2) #[.string nm, vp, ve] 42
  k : Bk W PS #[.int .u64 r, .map m1, .map m2, .string sn, .int .u64 sv] 59
  M1 : MapIs mkR L1 L2 W m1 nD D
  M2 : MapIs fiR L1 L2 W m2 nF F
  M3 : MapIs mkR L2 L3 W m3 nD D
  M4 : MapIs fiR L2 L3 W m4 nF F
  M5 : MapIs mkR (L3 + 1) L4 W m5 nE E
  M6 : MapIs fiR (L3 + 1) L4 W m6 nG G
  P : StrsAt (w.heap.size + 3) L1 W vp pl
  E : StrsAt (w.heap.size + 3) L1 W ve es
  o1 : w.heap.size + 3 ≤ L1
  o2 : L1 ≤ PS
  o3 : PS < L2
  o4 : L2 ≤ L3
  o5 : L3 < L4
  o6 : L4 < W.heap.size
  below : Below w.heap.size w W

section
variable {w W W2 : World} {L1 L2 L3 L4 PS : Nat} {r s sv : Int} {sn nm : ByteArray} {m1 m2 m3 m4 m5 m6 : Option Nat} {vp ve : Value} {pl es : List ByteArray} {nD nF nE nG : Nat} {D F E G : DataW Value}

theorem Pack.step (h : Pack w W L1 L2 L3 L4 PS r s sv sn nm m1 m2 m3 m4 m5 m6 vp ve pl es nD nF nE nG D F E G) (b : Below W.heap.size W W2) : Pack w W2 L1 L2 L3 L4 PS r s sv sn nm m1 m2 m3 m4 m5 m6 vp ve pl es nD nF nE nG D F E G := by
  obtain ⟨n12, n13, z, k, M1, M2, M3, M4, M5, M6, hP, hE, o1, o2, o3, o4, o5, o6, hbl⟩ := h
  have hz := b.size
  have hw := hbl.size
  exact ⟨n12.below b n12.lt, n13.below b n13.lt, z.below b z.lt, k.below b k.lt, M1.same (Same.below b (by omega)), M2.same (Same.below b (by omega)), M3.same (Same.below b (by omega)), M4.same (Same.below b (by omega)), M5.same (Same.below b (by omega)), M6.same (Same.below b (by omega)),
    hP.same (Same.below b (by omega)), hE.same (Same.below b (by omega)), o1, o2, o3, o4, o5, by omega, hbl.trans (b.mono hw)⟩

/-- What the law looks at behind Join. -/
structure Post (w W : World) (L3 L4 PS : Nat) (r s : Int) (m3 m4 m5 m6 : Option Nat) (D F E G : DataW Value) (r' : Int) (mo fo : Option Nat) (D' F' : DataW Value) : Prop where
  n12 : Nx W L3 (.int .u64 r) (.map m3) (.map m4)
  n13 : Nx W L4 (.int .u64 s) (.map m5) (.map m6)
  c0 : W.cell? ⟨PS, 0, none⟩ = some (.int .u64 r')
  c1 : W.cell? ⟨PS, 1, none⟩ = some (.map mo)
  c2 : W.cell? ⟨PS, 2, none⟩ = some (.map fo)
  hi : ∃ hi k1 k2 k3 k4 k5 k6, hi ≤ W.heap.size ∧ MapIs mkR 0 hi W mo k1 D' ∧ MapIs fiR 0 hi W fo k2 F' ∧ MapIs mkR 0 hi W m3 k3 D ∧ MapIs fiR 0 hi W m4 k4 F ∧ MapIs mkR 0 hi W m5 k5 E ∧ MapIs fiR 0 hi W m6 k6 G
  below : Below w.heap.size w W

theorem Post.step {r' : Int} {mo fo : Option Nat} {D' F' : DataW Value} (h : Post w W L3 L4 PS r s m3 m4 m5 m6 D F E G r' mo fo D' F') (b : Below W.heap.size W W2) : Post w W2 L3 L4 PS r s m3 m4 m5 m6 D F E G r' mo fo D' F' := by
  obtain ⟨n12, n13, c0, c1, c2, ⟨hi, k1, k2, k3, k4, k5, k6, hh, M1, M2, M3, M4, M5, M6⟩, hbl⟩ := h
  have hs := Same.below (lo := 0) b hh
  have hc : ∀ j v, W.cell? ⟨PS, j, none⟩ = some v → W2.cell? ⟨PS, j, none⟩ = some v := fun j v h => (b.cell (cell_lt h)).trans h
  exact ⟨n12.below b n12.lt, n13.below b n13.lt, hc _ _ c0, hc _ _ c1, hc _ _ c2, ⟨hi, k1, k2, k3, k4, k5, k6, Nat.le_trans hh b.size, M1.same hs, M2.same hs, M3.same hs, M4.same hs, M5.same hs, M6.same hs⟩, hbl.trans (b.mono hbl.size)⟩

theorem Pack.post (h : Pack w W L1 L2 L3 L4 PS r s sv sn nm m1 m2 m3 m4 m5 m6 vp ve pl es nD nF nE nG D F E G) {got : Bool} (j : Joint W W2 PS m1 m2 r s D F E G got) :
    (got = true ↔ ¬ CoversP r D F s E G) ∧ ∃ r' mo fo D' F', CoversP r' D' F' r D F ∧ CoversP r' D' F' s E G ∧ Post w W2 L3 L4 PS r s m3 m4 m5 m6 D F E G r' mo fo D' F' := by
  obtain ⟨n12, n13, z, k, M1, M2, M3, M4, M5, M6, hP, hE, o1, o2, o3, o4, o5, o6, hbl⟩ := h
  obtain ⟨r', mo, fo, lo, hi, k1, k2, D', F', ⟨c0, c1, c2⟩, J1, J2, hh, p1, p2⟩ := j.out
  have hw := hbl.size
  have e1 : ∀ k, m1 = some k → L1 ≤ k ∧ k < L2 := fun k e => by subst e; exact ⟨M1.1, M1.2.1⟩
  have e2 : ∀ k, m2 = some k → L1 ≤ k ∧ k < L2 := fun k e => by subst e; exact ⟨M2.1, M2.2.1⟩
  have hk : ∀ k, k < W.heap.size → (k < L1 ∨ L2 ≤ k) → W2.heap[k]? = W.heap[k]? := fun k h1 h2 => j.block k h1 (by omega) (fun e => by have := e1 k e; omega) (fun e => by have := e2 k e; omega)
  have s1 : Same L2 W.heap.size W W2 := fun k h1 h2 => hk k h2 (Or.inr h1)
  have s3 : Same L2 L3 W W2 := s1.mono (Nat.le_refl _) (by omega)
  have s5 : Same (L3 + 1) L4 W W2 := s1.mono (by omega) (by omega)
  have hz := j.size
  refine ⟨j.says, r', mo, fo, D', F', p1, p2, (hk L3 (by omega) (Or.inr (by omega))).trans n12, (hk L4 o6 (Or.inr (by omega))).trans n13, c0, c1, c2,
    ⟨W2.heap.size, _, _, _, _, _, _, Nat.le_refl _, J1.mono (Nat.zero_le _) hh, J2.mono (Nat.zero_le _) hh, (M3.same s3).mono (Nat.zero_le _) (by omega), (M4.same s3).mono (Nat.zero_le _) (by omega), (M5.same s5).mono (Nat.zero_le _) (by omega), (M6.same s5).mono (Nat.zero_le _) (by omega)⟩, ?_⟩
  exact ⟨j.os.trans hbl.os, j.tape.trans hbl.tape, j.output.trans hbl.output, by omega, fun k h1 => (hk k (by omega) (Or.inl (by omega))).trans (hbl.block k h1)⟩

/-- The boxes of the news and of the site, as facts for the walk. -/
abbrev SJ (L4 B7 : Nat) (s : Int) (m5 m6 : Option Nat) (nm : ByteArray) (vp ve : Value) (w' : World) : Prop :=
  w'.cell? ⟨L4, 0, none⟩ = some (.int .u64 s) ∧ w'.cell? ⟨L4, 1, none⟩ = some (.map m5) ∧ w'.cell? ⟨L4, 2, none⟩ = some (.map m6) ∧ w'.cell? ⟨B7, 0, none⟩ = some (.string nm) ∧ w'.cell? ⟨B7, 1, none⟩ = some vp ∧ w'.cell? ⟨B7, 2, none⟩ = some ve

theorem Pack.sj (h : Pack w W L1 L2 L3 L4 PS r s sv sn nm m1 m2 m3 m4 m5 m6 vp ve pl es nD nF nE nG D F E G) : SJ L4 (w.heap.size + 2) s m5 m6 nm vp ve W := by
  obtain ⟨c0, c1, c2⟩ := h.n13.cells
  exact ⟨c0, c1, c2, h.z.cell 0, h.z.cell 1, h.z.cell 2⟩

theorem Pack.sj' (h : Pack w W L1 L2 L3 L4 PS r s sv sn nm m1 m2 m3 m4 m5 m6 vp ve pl es nD nF nE nG D F E G) {got : Bool} (j : Joint W W2 PS m1 m2 r s D F E G got) : SJ L4 (w.heap.size + 2) s m5 m6 nm vp ve W2 := by
  obtain ⟨_, r', mo, fo, D', F', _, _, po⟩ := h.post j
  obtain ⟨c0, c1, c2⟩ := po.n13.cells
  obtain ⟨n12, n13, z, k, M1, M2, M3, M4, M5, M6, hP, hE, o1, o2, o3, o4, o5, o6, hbl⟩ := h
  have e1 : m1 ≠ some (w.heap.size + 2) := fun e => by subst e; have := M1.1; omega
  have e2 : m2 ≠ some (w.heap.size + 2) := fun e => by subst e; have := M2.1; omega
  have hz : Bk W2 (w.heap.size + 2) #[.string nm, vp, ve] 42 := (j.block _ z.lt (by omega) e1 e2).trans z
  exact ⟨c0, c1, c2, hz.cell 0, hz.cell 1, hz.cell 2⟩

theorem SJ.step {L4 B7 : Nat} {w1 w2 : World} (h : SJ L4 B7 s m5 m6 nm vp ve w1) (b : Below w1.heap.size w1 w2) : SJ L4 B7 s m5 m6 nm vp ve w2 := by
  obtain ⟨c0, c1, c2, d0, d1, d2⟩ := h
  have hc : ∀ a v, w1.cell? a = some v → w2.cell? a = some v := fun a v h => (b.cell (cell_lt h)).trans h
  exact ⟨hc _ _ c0, hc _ _ c1, hc _ _ c2, hc _ _ d0, hc _ _ d1, hc _ _ d2⟩

/-- The snapshot and the two news, as facts for the walk. -/
abbrev SF (PS L3 L4 : Nat) (r' r s : Int) (mo fo m3 m4 m5 m6 : Option Nat) (w' : World) : Prop :=
  w'.cell? ⟨PS, 0, none⟩ = some (.int .u64 r') ∧ w'.cell? ⟨PS, 1, none⟩ = some (.map mo) ∧ w'.cell? ⟨PS, 2, none⟩ = some (.map fo) ∧ w'.cell? ⟨L3, 0, none⟩ = some (.int .u64 r) ∧ w'.cell? ⟨L3, 1, none⟩ = some (.map m3) ∧ w'.cell? ⟨L3, 2, none⟩ = some (.map m4) ∧ w'.cell? ⟨L4, 0, none⟩ = some (.int .u64 s) ∧ w'.cell? ⟨L4, 1, none⟩ = some (.map m5) ∧ w'.cell? ⟨L4, 2, none⟩ = some (.map m6)

theorem Post.sf {r' : Int} {mo fo : Option Nat} {D' F' : DataW Value} (h : Post w W L3 L4 PS r s m3 m4 m5 m6 D F E G r' mo fo D' F') : SF PS L3 L4 r' r s mo fo m3 m4 m5 m6 W := by
  obtain ⟨a0, a1, a2⟩ := h.n12.cells
  obtain ⟨b0, b1, b2⟩ := h.n13.cells
  exact ⟨h.c0, h.c1, h.c2, a0, a1, a2, b0, b1, b2⟩

theorem SF.step {r' : Int} {mo fo : Option Nat} {w1 w2 : World} (h : SF PS L3 L4 r' r s mo fo m3 m4 m5 m6 w1) (b : Below w1.heap.size w1 w2) : SF PS L3 L4 r' r s mo fo m3 m4 m5 m6 w2 := by
  obtain ⟨c0, c1, c2, d0, d1, d2, e0, e1, e2⟩ := h
  have hc : ∀ a v, w1.cell? a = some v → w2.cell? a = some v := fun a v h => (b.cell (cell_lt h)).trans h
  exact ⟨hc _ _ c0, hc _ _ c1, hc _ _ c2, hc _ _ d0, hc _ _ d1, hc _ _ d2, hc _ _ e0, hc _ _ e1, hc _ _ e2⟩

end

end Go.Proofs.Qxb6601448a
