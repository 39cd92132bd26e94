/- Join at whatever rounds: what it answers, what it leaves. -/
import Derived.Test.Qxb6601448aJoinFacts
import Derived.Test.Qxb6601448aTrio
namespace Go.Proofs.Qxb6601448a
open Go.RowKit
open Go.Maps (has IsMap)
set_option linter.unusedVariables false

/-- What Join leaves: the snapshot's first three cells, its maps; what else was there is kept. -/
structure Joint (w1 w' : World) (PS : Nat) (m1 m2 : Option Nat) (r s : Int) (D F E G : DataW Value) (got : Bool) : Prop where
  says : got = true ↔ ¬ CoversP r D F s E G
  out : ∃ r' mo fo lo hi n m D' F', (w'.cell? ⟨PS, 0, none⟩ = some (.int .u64 r') ∧ w'.cell? ⟨PS, 1, none⟩ = some (.map mo) ∧ w'.cell? ⟨PS, 2, none⟩ = some (.map fo)) ∧ MapIs mkR lo hi w' mo n D' ∧ MapIs fiR lo hi w' fo m F' ∧ hi ≤ w'.heap.size ∧ CoversP r' D' F' r D F ∧ CoversP r' D' F' s E G
  os : w'.os = w1.os
  tape : w'.tape = w1.tape
  output : w'.output = w1.output
  size : w1.heap.size ≤ w'.heap.size
  block : ∀ k, k < w1.heap.size → k ≠ PS → m1 ≠ some k → m2 ≠ some k → w'.heap[k]? = w1.heap[k]?

theorem isMap_own {R : Value → Option (DataW Value × List MemPlace)} {w : World} {b n : Nat} {D : DataW Value} (h : w.ownsMap Try.prog 9 R b n D) : IsMap D := by
  obtain ⟨es, clock, _, _, _, hD⟩ := h
  rw [hD]
  exact ⟨_, rfl⟩

theorem size_own {R : Value → Option (DataW Value × List MemPlace)} {w : World} {b n : Nat} {D : DataW Value} (h : w.ownsMap Try.prog 9 R b n D) : Maps.size D ≤ n := by
  obtain ⟨es, clock, _, _, hs, hD⟩ := h
  rw [hD]
  simp only [Maps.size, length_sorted, List.length_map, Array.length_toList]
  exact hs

theorem grown_blocks {W wo wf : World} {mb fb : Nat} (h1 : W.grownBy wo (some mb)) (h2 : wo.grownBy wf (some fb)) : wf.os = W.os ∧ wf.tape = W.tape ∧ wf.output = W.output ∧ W.heap.size ≤ wf.heap.size ∧ ∀ k, k < W.heap.size → k ≠ mb → k ≠ fb → wf.heap[k]? = W.heap[k]? :=
  ⟨h2.os.trans h1.os, h2.tape.trans h1.tape, h2.output.trans h1.output, Nat.le_trans h1.size h2.size, fun k hk h3 h4 => (h2.block k (Nat.lt_of_lt_of_le hk h1.size) (by simpa using h4)).trans (h1.block k hk (by simpa using h3))⟩

theorem size_is {R : Value → Option (DataW Value × List MemPlace)} {lo hi : Nat} {w : World} {mo : Option Nat} {n : Nat} {D : DataW Value} (h : MapIs R lo hi w mo n D) : Maps.size D ≤ n := by
  cases mo with
  | none =>
    have : D = .map [] := h
    rw [this]
    exact Nat.zero_le _
  | some b => exact size_own h.2.2

section
variable {w1 : World} {s : Int} {m5 m6 : Option Nat} {nm : ByteArray} {vp ve : Value}

/-- Join's two boxes. -/
abbrev boxed (w1 : World) (s : Int) (m5 m6 : Option Nat) (nm : ByteArray) (vp ve : Value) (n : Nat) : World := ((w1.alloc (.cells #[.int .u64 s, .map m5, .map m6] 36)).alloc (.cells #[.string nm, vp, ve] 52)).drewN n

theorem boxed_below (n : Nat) : Below w1.heap.size w1 (boxed w1 s m5 m6 nm vp ve n) :=
  below_drewN (((Below.refl _ w1).alloc (Nat.le_refl _) _).alloc (by simp) _) n

theorem boxed_6 (n : Nat) : Bk (boxed w1 s m5 m6 nm vp ve n) w1.heap.size #[.int .u64 s, .map m5, .map m6] 36 := (Bk.new w1 _ _).alloc _
theorem boxed_7 (n : Nat) : Bk (boxed w1 s m5 m6 nm vp ve n) (w1.heap.size + 1) #[.string nm, vp, ve] 52 := by
  have := Bk.new (w1.alloc (.cells #[.int .u64 s, .map m5, .map m6] 36)) #[.string nm, vp, ve] 52
  rw [World.size_alloc] at this
  exact this
end

theorem joint_lt {w1 w' : World} {PS : Nat} {r s sv : Int} {sn : ByteArray} {m1 m2 : Option Nat} {lo1 hi1 nD nF : Nat} {D F E G : DataW Value} (hrs : s < r) (hb : Bk w1 PS #[.int .u64 r, .map m1, .map m2, .string sn, .int .u64 sv] 59) (M1 : MapIs mkR lo1 hi1 w1 m1 nD D) (M2 : MapIs fiR lo1 hi1 w1 m2 nF F) (hh1 : hi1 ≤ w1.heap.size) (b : Below w1.heap.size w1 w') : Joint w1 w' PS m1 m2 r s D F E G false := by
  obtain ⟨h1, h2, h3⟩ := end_lt (D := D) (F := F) (E := E) (G := G) hrs
  have hb' := hb.below b hb.lt
  exact ⟨h1, ⟨r, m1, m2, lo1, hi1, nD, nF, D, F, ⟨hb'.cell 0, hb'.cell 1, hb'.cell 2⟩, M1.same (Same.below b hh1), M2.same (Same.below b hh1), Nat.le_trans hh1 b.size, h2, h3⟩, b.os, b.tape, b.output, b.size, fun k hk _ _ _ => b.block k hk⟩

theorem joint_eq {w1 W w' : World} {PS mb fb : Nat} {r sv : Int} {sn : ByteArray} {lo1 hi1 nD nF : Nat} {D F E G : DataW Value} {es : List ByteArray} {chg : Bool} (hb : Bk w1 PS #[.int .u64 r, .map (some mb), .map (some fb), .string sn, .int .u64 sv] 59) (M1 : MapIs mkR lo1 hi1 w1 (some mb) nD D) (M2 : MapIs fiR lo1 hi1 w1 (some fb) nF F)
    (hE : Clear es E) (hG : Clear es G) (h : JoinEnd es D E F G mb fb false W w' chg) (b : Below w1.heap.size w1 W) : Joint w1 w' PS (some mb) (some fb) r r D F E G chg := by
  obtain ⟨h1, n, D', m, F', o1, o2, h2, h3⟩ := end_eq (r := r) h hE hG
  obtain ⟨_, _, _, _, _, _, _, _, _, _, _, _, _, _, _, wo, g1, g2⟩ := h
  obtain ⟨e1, e2, e3, e4, e5⟩ := grown_blocks g1 g2
  have hb' := hb.below b hb.lt
  have p1 : PS ≠ mb := map_ne_cells M1.2.2 (hb.cell 0)
  have p2 : PS ≠ fb := map_ne_cells M2.2.2 (hb.cell 0)
  have hw : Bk w' PS #[.int .u64 r, .map (some mb), .map (some fb), .string sn, .int .u64 sv] 59 := (e5 PS hb'.lt p1 p2).trans hb'
  refine ⟨h1, ⟨r, some mb, some fb, 0, w'.heap.size, n, m, D', F', ⟨hw.cell 0, hw.cell 1, hw.cell 2⟩, ⟨Nat.zero_le _, o1.lt, o1⟩, ⟨Nat.zero_le _, o2.lt, o2⟩, Nat.le_refl _, h2, h3⟩, e1.trans b.os, e2.trans b.tape, e3.trans b.output, Nat.le_trans b.size e4, fun k hk _ k1 k2 => ?_⟩
  exact (e5 k (Nat.lt_of_lt_of_le hk b.size) (fun e => k1 (by rw [e])) (fun e => k2 (by rw [e]))).trans (b.block k hk)

/-- What the record leaves, for the tail. -/
def Rx (w1 : World) (PS : Nat) (s : Int) (W : World) (mb fb : Nat) : Prop :=
  (W.cell? ⟨PS, 0, none⟩ = some (.int .u64 s) ∧ W.cell? ⟨PS, 1, none⟩ = some (.map (some mb)) ∧ W.cell? ⟨PS, 2, none⟩ = some (.map (some fb))) ∧ w1.grownBy W (some PS) ∧ w1.heap.size ≤ mb ∧ w1.heap.size ≤ fb

theorem joint_gt {w1 W w' : World} {PS mb fb : Nat} {r s : Int} {m1 m2 : Option Nat} {D F E G D0 F0 : DataW Value} {es : List ByteArray} {chg : Bool} (hrs : r < s) (hPS : PS < w1.heap.size) (hE : Clear es E) (hG : Clear es G) (h : JoinEnd es D0 E F0 G mb fb true W w' chg) (x : Rx w1 PS s W mb fb) : Joint w1 w' PS m1 m2 r s D F E G chg := by
  obtain ⟨h1, n, D', m, F', o1, o2, h2, h3⟩ := end_gt (D1 := D) (F1 := F) hrs h hE hG
  obtain ⟨_, _, _, _, _, _, _, _, _, _, _, _, _, _, _, wo, g1, g2⟩ := h
  obtain ⟨e1, e2, e3, e4, e5⟩ := grown_blocks g1 g2
  obtain ⟨⟨c0, c1, c2⟩, gW, l1, l2⟩ := x
  have hc : ∀ a : Addr, a.block = PS → w'.cell? a = W.cell? a := fun a ha => World.cell?_of_block (e5 a.block (by rw [ha]; exact Nat.lt_of_lt_of_le hPS gW.size) (by omega) (by omega))
  refine ⟨h1, ⟨s, some mb, some fb, 0, w'.heap.size, n, m, D', F', ⟨(hc _ rfl).trans c0, (hc _ rfl).trans c1, (hc _ rfl).trans c2⟩, ⟨Nat.zero_le _, o1.lt, o1⟩, ⟨Nat.zero_le _, o2.lt, o2⟩, Nat.le_refl _, h2, h3⟩, e1.trans gW.os, e2.trans gW.tape, e3.trans gW.output, Nat.le_trans gW.size e4, fun k hk kp _ _ => ?_⟩
  exact (e5 k (Nat.lt_of_lt_of_le hk gW.size) (by omega) (by omega)).trans (gW.block k hk (by simpa using kp))

theorem grown_from {a b c : World} {row : Option Nat} (h : Below a.heap.size a b) (k : b.grownBy c row) : a.grownBy c row :=
  ⟨k.os.trans h.os, k.tape.trans h.tape, k.output.trans h.output, Nat.le_trans h.size k.size, fun i hi hne => (k.block i (Nat.lt_of_lt_of_le hi h.size) hne).trans (h.block i hi)⟩

/-- Join on a snapshot and news that share no memory. -/
theorem join_any (PS : Nat) (r s sv q1 q2 : Int) (sn nm : ByteArray) (m1 m2 m5 m6 : Option Nat) (x1 : Option Addr) (y1 z1 : Nat) (ve : Value) (pl es : List ByteArray) (D F E G : DataW Value) (w1 : World) {lo hi lv hv lo1 hi1 nD nF nE nG : Nat}
    (hr : 0 ≤ r) (hs : 0 < s) (hnm : nm.size ≤ maxLen) (hb : Bk w1 PS #[.int .u64 r, .map m1, .map m2, .string sn, .int .u64 sv] 59) (hf : 0 < r → m1 ≠ none ∧ m2 ≠ none) (hd : ∀ b, m1 = some b → m2 ≠ some b)
    (M1 : MapIs mkR lo1 hi1 w1 m1 nD D) (M2 : MapIs fiR lo1 hi1 w1 m2 nF F) (M5 : MapIs mkR lo hi w1 m5 nE E) (M6 : MapIs fiR lo hi w1 m6 nG G) (hp : StrsAt lv hv w1 (.slice x1 y1 z1) pl) (he : StrsAt lv hv w1 ve es)
    (hE : Clear es E) (hG : Clear es G) (g1 : hv ≤ lo1) (g2 : hi1 ≤ lo) (g3 : hi ≤ w1.heap.size) (g4 : hv ≤ PS) (g5 : PS < lo) (g6 : hi1 ≤ w1.heap.size) (g7 : hv ≤ w1.heap.size) (n1 : nD + nE + 1 < maxLen) (n2 : nF + nG + 1 < maxLen) :
    Calls Try.prog 22 #[.pointer (some ⟨PS, 0, none⟩), .agg #[.int .u64 s, .map m5, .map m6], .agg #[.string nm, .slice x1 y1 z1, ve], .int .u64 q1, .int .u64 q2] w1 fun e w' => ∃ got, e = .returned (.bool got) ∧ Joint w1 w' PS m1 m2 r s D F E G got := by
  have hlt := hb.lt
  have zE := size_is M5
  have zG := size_is M6
  rcases Int.lt_trichotomy s r with hsr | hsr | hsr
  · refine (join_no PS s r q1 q2 m5 m6 nm (.slice x1 y1 z1) ve w1 (Or.inr hsr) hlt (hb.cell 0)).mono ?_
    rintro e w' ⟨rfl, b⟩
    exact ⟨false, rfl, joint_lt hsr hb M1 M2 g6 b⟩
  · subst hsr
    obtain ⟨k1, k2⟩ := hf hs
    cases m1 with
    | none => exact absurd rfl k1
    | some mb =>
    cases m2 with
    | none => exact absurd rfl k2
    | some fb =>
    have l1 := M1.1
    have l2 := M1.2.1
    have l3 := M2.1
    have l4 := M2.2.1
    have hset : ∀ n, (fun W => Set0 W w1.heap.size (w1.heap.size + 1) PS mb fb m5 m6 nm (.slice x1 y1 z1) ve es lo hi lv hv nE nG nD nF E G D F ∧ Below w1.heap.size w1 W) (boxed w1 s m5 m6 nm (.slice x1 y1 z1) ve n) := fun n => by
      have b : Below w1.heap.size w1 (boxed w1 s m5 m6 nm (.slice x1 y1 z1) ve n) := boxed_below n
      have hz := b.size
      have hb' := hb.below b hlt
      have hve := he.same (Same.below b g7)
      refine ⟨⟨(boxed_6 n).cell 1, (boxed_6 n).cell 2, (boxed_7 n).cell 0, (boxed_7 n).cell 1, (boxed_7 n).cell 2, hb'.cell 1, hb'.cell 2, ⟨hve, Or.inr (by omega), by omega, M5.same (Same.below b g3), ownsMap_block M1.2.2 (b.block mb (by omega)), Or.inl (by omega), by omega, by omega, isMap_own M1.2.2⟩,
        ⟨hve, Or.inr (by omega), by omega, M6.same (Same.below b g3), ownsMap_block M2.2.2 (b.block fb (by omega)), Or.inl (by omega), by omega, by omega, isMap_own M2.2.2⟩, fun e => hd mb rfl (by rw [e])⟩, b⟩
    refine (join_eq PS mb fb s q1 q2 m5 m6 nm (.slice x1 y1 z1) ve es w1 E G D F hs hlt (hb.cell 0) (hide hset)).mono ?_
    rintro e w' ⟨chg, W, rfl, hJ, b, _⟩
    exact ⟨chg, rfl, joint_eq hb M1 M2 hE hG hJ b⟩
  · have hrec : ∀ n, Calls Try.prog 49 #[.pointer (some ⟨PS, 0, none⟩), .int .u64 s, .agg #[.string nm, .slice x1 y1 z1, ve], .int .u64 q1, .int .u64 q2] (boxed w1 s m5 m6 nm (.slice x1 y1 z1) ve n) fun e W => e = .returned (.tuple #[]) ∧ ∃ mb fb n0 k0 D0 F0, Set0 W w1.heap.size (w1.heap.size + 1) PS mb fb m5 m6 nm (.slice x1 y1 z1) ve es lo hi lv hv nE nG n0 k0 E G D0 F0 ∧ (fun W mb fb _ _ => Rx w1 PS s W mb fb) W mb fb D0 F0 := fun n => by
      have b : Below w1.heap.size w1 (boxed w1 s m5 m6 nm (.slice x1 y1 z1) ve n) := boxed_below n
      have hz := b.size
      have hb' := hb.below b hlt
      refine (record_any PS s q1 q2 nm x1 y1 z1 ve pl es _ _ _ _ _ _ (hp.same (Same.below b g7)) (he.same (Same.below b g7)) (by omega) hnm (by omega) (hb'.cell 0) (hb'.cell 1) (hb'.cell 2) (hb'.cell 3) (hb'.cell 4) (hb'.free 0) (hb'.free 1) (hb'.free 2) (hb'.free 3) (hb'.free 4)).mono ?_
      rintro e W ⟨rfl, mb, fb, pa, pn, pc, ⟨c0, c1, c2, _, _⟩, R1, R2, hne, _, g⟩
      have l1 := R1.1
      have l3 := R2.1
      have hzW := g.size
      have h6 := (boxed_6 (w1 := w1) (s := s) (m5 := m5) (m6 := m6) (nm := nm) (vp := .slice x1 y1 z1) (ve := ve) n).grown g (by simp; omega)
      have h7 := (boxed_7 (w1 := w1) (s := s) (m5 := m5) (m6 := m6) (nm := nm) (vp := .slice x1 y1 z1) (ve := ve) n).grown g (by simp; omega)
      have hsv : Same lv hv w1 W := (Same.below b g7).trans fun k h1 h2 => g.block k (by omega) (by simp; omega)
      have hsm : Same lo hi w1 W := (Same.below b g3).trans fun k h1 h2 => g.block k (by omega) (by simp; omega)
      refine ⟨rfl, mb, fb, 1, 0, _, _, ⟨h6.cell 1, h6.cell 2, h7.cell 0, h7.cell 1, h7.cell 2, c1, c2, ⟨he.same hsv, Or.inr (by omega), by omega, M5.same hsm, R1.2.2, Or.inr (by omega), by omega, by omega, isMap_mapOf _⟩,
        ⟨he.same hsv, Or.inr (by omega), by omega, M6.same hsm, R2.2.2, Or.inr (by omega), by omega, by omega, Maps.isMap_empty⟩, hne⟩, ⟨c0, c1, c2⟩, grown_from b g, by omega, by omega⟩
    refine (join_gt PS s r q1 q2 m5 m6 nm (.slice x1 y1 z1) ve es w1 E G (fun W mb fb _ _ => Rx w1 PS s W mb fb) hr hsr hlt (hb.cell 0) (hide hrec)).mono ?_
    rintro e w' ⟨chg, W, mb, fb, D0, F0, rfl, hJ, hx⟩
    exact ⟨chg, rfl, joint_gt hsr hlt hE hG hJ hx⟩

end Go.Proofs.Qxb6601448a
