/- The walk of the guard zzBytes_FnCoversPreorder: it returns a bool; nothing that was there turns. -/
import Derived.Test.Qxb6601448aGuard
import Derived.Test.Qxb6601448aCopy
namespace Go.Proofs.Qxb6601448a
open Go.RowKit
set_option linter.unusedVariables false

def kinds8 : Kinds := [((0, 1), 1), ((0, 2), 2), ((0, 3), 3), ((0, 4), 1), ((0, 5), 2), ((1, 1), 1), ((1, 2), 2), ((1, 3), 3), ((1, 4), 1), ((1, 5), 2), ((2, 1), 1), ((2, 2), 2), ((2, 3), 3), ((2, 4), 1), ((2, 5), 2)]

/-- A ZNews's cells, in a table. -/
def newsTable (j : Nat) (c1 c2 c3 c4 c5 : Value) (n : News) (vs : List Value) : Table :=
  [((j, 1), ⟨1, c1, n.mn.length, [], []⟩), ((j, 2), ⟨2, c2, n.ms.length, [], []⟩), ((j, 3), ⟨3, c3, vs.length, vs, n.mp.map List.length⟩), ((j, 4), ⟨1, c4, n.fn.length, [], []⟩), ((j, 5), ⟨2, c5, n.fv.length, [], []⟩)]

theorem newsTable_ok {j b lo hi : Nat} {B : Nat → Nat} {w : World} {c1 c2 c3 c4 c5 : Value} {n : News} {vs : List Value} (hB : B j = b) (h1 : StrsAt lo hi w c1 n.mn) (h2 : WordsAt lo hi w c2 n.ms) (h3 : RowAt 24 lo hi w c3 vs) (h3s : StrsEach lo hi w vs n.mp) (h4 : StrsAt lo hi w c4 n.fn) (h5 : WordsAt lo hi w c5 n.fv)
    (k1 : w.cell? ⟨b, 1, none⟩ = some c1) (k2 : w.cell? ⟨b, 2, none⟩ = some c2) (k3 : w.cell? ⟨b, 3, none⟩ = some c3) (k4 : w.cell? ⟨b, 4, none⟩ = some c4) (k5 : w.cell? ⟨b, 5, none⟩ = some c5) :
    ∀ p ∈ newsTable j c1 c2 c3 c4 c5 n vs, InfoOK w ⟨B p.1.1, p.1.2, none⟩ p.2 := by
  subst hB
  intro p hp
  simp only [newsTable, List.mem_cons, List.not_mem_nil, or_false] at hp
  rcases hp with rfl | rfl | rfl | rfl | rfl
  · exact info_strs k1 h1
  · exact info_words k2 h2
  · exact info_nest k3 h3 h3s
  · exact info_strs k4 h4
  · exact info_words k5 h5

theorem at_start {M : Env} {K : Nat → Nat} {N z : Nat} {bx : List (Nat × Nat)} {a : Act} (hs : a.tmps.size = N) (hd : a.defers = []) (hb : ∀ p ∈ bx, a.eval (.tmp p.1) = .pointer (some ⟨M.B p.2, 0, none⟩)) (hz : ∃ y, a.eval (.tmp z) = .int .i64 y) : At M K N bx z [] a := by
  refine ⟨fun t => ?_, hs, hd⟩
  cases h : bx.lookup t with
  | some j =>
    rw [named_box h]
    exact hb (t, j) (lookup_mem h)
  | none =>
    by_cases e : t = z
    · rw [named_sum h e, e]
      exact hz
    · rw [named_no h e (by simp)]
      trivial

theorem OkR.run {w : World} {M : Env} {K : Nat → Nat} {N R z : Nat} {bx : List (Nat × Nat)} {c : Code} {a : Act} {Q : Exit → Act → World → Prop} (h : OkR w M N R bx z c K) (ha : At M K N bx z [] a) (hr : ∀ a', Done N R a' → Q .ret a' w) : c.wp Try.prog Q a w := h a Q ha hr

set_option maxRecDepth 1000000 in
set_option maxHeartbeats 4000000 in
theorem zz8 (r s t : Int) (a1 a2 a3 a4 a5 b1 b2 b3 b4 b5 c1 c2 c3 c4 c5 : Value) (na nb nc : News) (w : World) {lo hi : Nat} (ha : NewsAt lo hi w a1 a2 a3 a4 a5 na) (hb : NewsAt lo hi w b1 b2 b3 b4 b5 nb) (hc : NewsAt lo hi w c1 c2 c3 c4 c5 nc) (hh : hi ≤ w.heap.size) :
    Calls Try.prog 8 #[.agg #[.int .u64 r, a1, a2, a3, a4, a5], .agg #[.int .u64 s, b1, b2, b3, b4, b5], .agg #[.int .u64 t, c1, c2, c3, c4, c5]] w fun e w' => (∃ b, e = .returned (.bool b)) ∧ Below w.heap.size w w' := by
  refine calls_of_wp Try.func8 rfl ?_
  have e0 : (⟨#[Value.agg #[.int .u64 r, a1, a2, a3, a4, a5], .agg #[.int .u64 s, b1, b2, b3, b4, b5], .agg #[.int .u64 t, c1, c2, c3, c4, c5]] ++ Array.replicate (Try.f8.ntmps - 3) undef, []⟩ : Act).tmps.size = 500 := by rw [Try.ntmps8]; simp
  have e1 : (⟨#[Value.agg #[.int .u64 r, a1, a2, a3, a4, a5], .agg #[.int .u64 s, b1, b2, b3, b4, b5], .agg #[.int .u64 t, c1, c2, c3, c4, c5]] ++ Array.replicate (Try.f8.ntmps - 3) undef, []⟩ : Act).eval (.tmp 0) = .agg #[.int .u64 r, a1, a2, a3, a4, a5] := by simp [Act.eval]
  have e2 : (⟨#[Value.agg #[.int .u64 r, a1, a2, a3, a4, a5], .agg #[.int .u64 s, b1, b2, b3, b4, b5], .agg #[.int .u64 t, c1, c2, c3, c4, c5]] ++ Array.replicate (Try.f8.ntmps - 3) undef, []⟩ : Act).eval (.tmp 1) = .agg #[.int .u64 s, b1, b2, b3, b4, b5] := by simp [Act.eval]
  have e3 : (⟨#[Value.agg #[.int .u64 r, a1, a2, a3, a4, a5], .agg #[.int .u64 s, b1, b2, b3, b4, b5], .agg #[.int .u64 t, c1, c2, c3, c4, c5]] ++ Array.replicate (Try.f8.ntmps - 3) undef, []⟩ : Act).eval (.tmp 2) = .agg #[.int .u64 t, c1, c2, c3, c4, c5] := by simp [Act.eval]
  have e4 : (⟨#[Value.agg #[.int .u64 r, a1, a2, a3, a4, a5], .agg #[.int .u64 s, b1, b2, b3, b4, b5], .agg #[.int .u64 t, c1, c2, c3, c4, c5]] ++ Array.replicate (Try.f8.ntmps - 3) undef, []⟩ : Act).defers = [] := rfl
  show Code.wp Try.prog _ _ ⟨#[Value.agg #[.int .u64 r, a1, a2, a3, a4, a5], .agg #[.int .u64 s, b1, b2, b3, b4, b5], .agg #[.int .u64 t, c1, c2, c3, c4, c5]] ++ Array.replicate (Try.f8.ntmps - 3) undef, []⟩ w
  generalize (⟨#[Value.agg #[.int .u64 r, a1, a2, a3, a4, a5], .agg #[.int .u64 s, b1, b2, b3, b4, b5], .agg #[.int .u64 t, c1, c2, c3, c4, c5]] ++ Array.replicate (Try.f8.ntmps - 3) undef, []⟩ : Act) = a at e0 e1 e2 e3 e4 ⊢
  refine wp_seq (wp_region_lit (l := [_, _, _, _]) ?_)
  refine x_box27 rfl rfl e1 (x_box27 rfl rfl (by rw [eval_put_ne (by decide)]; exact e2) (x_box27 rfl rfl (by rw [eval_put_ne (by decide), eval_put_ne (by decide)]; exact e3) (x_one rfl (x_assign rfl) (wpList_nil ?_))))
  refine wp_seq (wp_region_lit (l := [_]) (x_one rfl (x_assign rfl) (wpList_nil ?_)))
  obtain ⟨vsa, g3a, g3as⟩ := ha.2.2.1
  obtain ⟨vsb, g3b, g3bs⟩ := hb.2.2.1
  obtain ⟨vsc, g3c, g3cs⟩ := hc.2.2.1
  have hs : Same lo hi w (((w.alloc (.cells #[.int .u64 r, a1, a2, a3, a4, a5] 27)).alloc (.cells #[.int .u64 s, b1, b2, b3, b4, b5] 27)).alloc (.cells #[.int .u64 t, c1, c2, c3, c4, c5] 27)) := (((Same.refl lo hi w).alloc _ hh).alloc _ (by simp; omega)).alloc _ (by simp; omega)
  have hT := memOK_of (T := newsTable 0 a1 a2 a3 a4 a5 na vsa ++ (newsTable 1 b1 b2 b3 b4 b5 nb vsb ++ newsTable 2 c1 c2 c3 c4 c5 nc vsc)) (B := fun j => w.heap.size + j) (w := ((w.alloc (.cells #[.int .u64 r, a1, a2, a3, a4, a5] 27)).alloc (.cells #[.int .u64 s, b1, b2, b3, b4, b5] 27)).alloc (.cells #[.int .u64 t, c1, c2, c3, c4, c5] 27)) (by
    intro p hp
    rcases List.mem_append.1 hp with hp | hp
    · exact newsTable_ok (b := w.heap.size) (by simp) (ha.1.same hs) (ha.2.1.same hs) (g3a.same hs) (g3as.same hs) (ha.2.2.2.1.same hs) (ha.2.2.2.2.same hs) (by simp [go_sem]) (by simp [go_sem]) (by simp [go_sem]) (by simp [go_sem]) (by simp [go_sem]) p hp
    · rcases List.mem_append.1 hp with hp | hp
      · exact newsTable_ok (b := w.heap.size + 1) (by simp) (hb.1.same hs) (hb.2.1.same hs) (g3b.same hs) (g3bs.same hs) (hb.2.2.2.1.same hs) (hb.2.2.2.2.same hs) (by simp [go_sem]) (by simp [go_sem]) (by simp [go_sem]) (by simp [go_sem]) (by simp [go_sem]) p hp
      · exact newsTable_ok (b := w.heap.size + 2) (by simp) (hc.1.same hs) (hc.2.1.same hs) (g3c.same hs) (g3cs.same hs) (hc.2.2.2.1.same hs) (hc.2.2.2.2.same hs) (by simp [go_sem]) (by simp [go_sem]) (by simp [go_sem]) (by simp [go_sem]) (by simp [go_sem]) p hp)
  have hM : MemOK kinds8 _ _ := hT
  clear hT
  generalize hE : envOf (newsTable 0 a1 a2 a3 a4 a5 na vsa ++ (newsTable 1 b1 b2 b3 b4 b5 nb vsb ++ newsTable 2 c1 c2 c3 c4 c5 nc vsc)) (fun j => w.heap.size + j) = M at hM
  have hB : ∀ j, M.B j = w.heap.size + j := fun j => by rw [← hE]; rfl
  clear hE
  have hbl : Below w.heap.size w (((w.alloc (.cells #[.int .u64 r, a1, a2, a3, a4, a5] 27)).alloc (.cells #[.int .u64 s, b1, b2, b3, b4, b5] 27)).alloc (.cells #[.int .u64 t, c1, c2, c3, c4, c5] 27)) := (((Below.refl _ w).alloc (Nat.le_refl _) _).alloc (by simp) _).alloc (by simp; omega) _
  have z1 : (w.alloc (.cells #[.int .u64 r, a1, a2, a3, a4, a5] 27)).heap.size = w.heap.size + 1 := by simp
  have z2 : ((w.alloc (.cells #[.int .u64 r, a1, a2, a3, a4, a5] 27)).alloc (.cells #[.int .u64 s, b1, b2, b3, b4, b5] 27)).heap.size = w.heap.size + 2 := by simp
  rw [z1, z2]
  generalize (((w.alloc (.cells #[.int .u64 r, a1, a2, a3, a4, a5] 27)).alloc (.cells #[.int .u64 s, b1, b2, b3, b4, b5] 27)).alloc (.cells #[.int .u64 t, c1, c2, c3, c4, c5] 27)) = W at hM hbl ⊢
  clear z1 z2 hs ha hb hc g3a g3as g3b g3bs g3c g3cs e1 e2 e3
  refine OkR.run (M := M) (K := fun _ => 0) (N := 500) (R := 6) (z := 7) (bx := [(3, 0), (4, 1), (5, 2)]) ?_ (at_start ?_ ?_ ?_ ?_) ?_
  rotate_left
  · simp only [size_put]; exact e0
  · simp only [defers_put]; exact e4
  · intro p hp
    simp only [List.mem_cons, List.not_mem_nil, or_false] at hp
    rcases hp with rfl | rfl | rfl
    · rw [eval_put_ne (by decide), eval_put_ne (by decide), eval_put_ne (by decide), eval_put_ne (by decide), eval_put_same (by rw [e0]; decide), hB]
      rfl
    · rw [eval_put_ne (by decide), eval_put_ne (by decide), eval_put_ne (by decide), eval_put_same (by simp only [size_put]; rw [e0]; decide), hB]
    · rw [eval_put_ne (by decide), eval_put_ne (by decide), eval_put_same (by simp only [size_put]; rw [e0]; decide), hB]
  · exact ⟨0, eval_put_same (by simp only [size_put]; rw [e0]; decide)⟩
  · intro a' hD
    obtain ⟨b, hb⟩ := hD.val
    exact bodyPost_ret (results_tmp rfl _ _ _) hD.defers ⟨⟨b, congrArg Ending.returned hb⟩, hbl⟩
  have hK := known_none M (fun _ => 0)
  refine OkR.seq (Ok.ifret hM hK (by decide) (by kernel_rfl)) ?_
  refine OkR.seq (Ok.region hM hK (by kernel_rfl)) ?_
  refine OkR.seq (Ok.ifret hM hK (by decide) (by kernel_rfl)) ?_
  refine OkR.seq (Ok.forL hM hK 0 1 1 rfl (by kernel_rfl) (by kernel_rfl) (by kernel_rfl) (by kernel_rfl) (by kernel_rfl) (fun k hK => Ok.seq (Ok.ifret hM hK (by decide) (by kernel_rfl)) (Ok.seq (Ok.region hM hK (by kernel_rfl)) (Ok.ifret hM hK (by decide) (by kernel_rfl))))) ?_
  refine OkR.seq (Ok.ifret hM hK (by decide) (by kernel_rfl)) ?_
  refine OkR.seq (Ok.region hM hK (by kernel_rfl)) ?_
  refine OkR.seq (Ok.ifret hM hK (by decide) (by kernel_rfl)) ?_
  refine OkR.seq (Ok.ifret hM hK (by decide) (by kernel_rfl)) ?_
  refine OkR.seq (Ok.region hM hK (by kernel_rfl)) ?_
  refine OkR.seq (Ok.ifret hM hK (by decide) (by kernel_rfl)) ?_
  refine OkR.seq (Ok.forL hM hK 0 3 3 rfl (by kernel_rfl) (by kernel_rfl) (by kernel_rfl) (by kernel_rfl) (by kernel_rfl) (fun k hK => Ok.seq (Ok.ifret hM hK (by decide) (by kernel_rfl)) (Ok.seq (Ok.region hM hK (by kernel_rfl)) (Ok.seq (Ok.ifret hM hK (by decide) (by kernel_rfl)) (Ok.forI hM hK 0 3 9 rfl rfl rfl (by kernel_rfl) (by kernel_rfl) (by kernel_rfl) (by kernel_rfl) (by kernel_rfl) (fun k hK => Ok.seq (Ok.ifret hM hK (by decide) (by kernel_rfl)) (Ok.seq (Ok.region hM hK (by kernel_rfl)) (Ok.ifret hM hK (by decide) (by kernel_rfl))))))))) ?_
  refine OkR.seq (Ok.ifret hM hK (by decide) (by kernel_rfl)) ?_
  refine OkR.seq (Ok.region hM hK (by kernel_rfl)) ?_
  refine OkR.seq (Ok.ifret hM hK (by decide) (by kernel_rfl)) ?_
  refine OkR.seq (Ok.forL hM hK 0 4 1 rfl (by kernel_rfl) (by kernel_rfl) (by kernel_rfl) (by kernel_rfl) (by kernel_rfl) (fun k hK => Ok.seq (Ok.ifret hM hK (by decide) (by kernel_rfl)) (Ok.seq (Ok.region hM hK (by kernel_rfl)) (Ok.ifret hM hK (by decide) (by kernel_rfl))))) ?_
  refine OkR.seq (Ok.ifret hM hK (by decide) (by kernel_rfl)) ?_
  refine OkR.seq (Ok.region hM hK (by kernel_rfl)) ?_
  refine OkR.seq (Ok.ifret hM hK (by decide) (by kernel_rfl)) ?_
  refine OkR.seq (Ok.ifret hM hK (by decide) (by kernel_rfl)) ?_
  refine OkR.seq (Ok.region hM hK (by kernel_rfl)) ?_
  refine OkR.seq (Ok.ifret hM hK (by decide) (by kernel_rfl)) ?_
  refine OkR.seq (Ok.forL hM hK 1 1 1 rfl (by kernel_rfl) (by kernel_rfl) (by kernel_rfl) (by kernel_rfl) (by kernel_rfl) (fun k hK => Ok.seq (Ok.ifret hM hK (by decide) (by kernel_rfl)) (Ok.seq (Ok.region hM hK (by kernel_rfl)) (Ok.ifret hM hK (by decide) (by kernel_rfl))))) ?_
  refine OkR.seq (Ok.ifret hM hK (by decide) (by kernel_rfl)) ?_
  refine OkR.seq (Ok.region hM hK (by kernel_rfl)) ?_
  refine OkR.seq (Ok.ifret hM hK (by decide) (by kernel_rfl)) ?_
  refine OkR.seq (Ok.ifret hM hK (by decide) (by kernel_rfl)) ?_
  refine OkR.seq (Ok.region hM hK (by kernel_rfl)) ?_
  refine OkR.seq (Ok.ifret hM hK (by decide) (by kernel_rfl)) ?_
  refine OkR.seq (Ok.forL hM hK 1 3 3 rfl (by kernel_rfl) (by kernel_rfl) (by kernel_rfl) (by kernel_rfl) (by kernel_rfl) (fun k hK => Ok.seq (Ok.ifret hM hK (by decide) (by kernel_rfl)) (Ok.seq (Ok.region hM hK (by kernel_rfl)) (Ok.seq (Ok.ifret hM hK (by decide) (by kernel_rfl)) (Ok.forI hM hK 1 3 13 rfl rfl rfl (by kernel_rfl) (by kernel_rfl) (by kernel_rfl) (by kernel_rfl) (by kernel_rfl) (fun k hK => Ok.seq (Ok.ifret hM hK (by decide) (by kernel_rfl)) (Ok.seq (Ok.region hM hK (by kernel_rfl)) (Ok.ifret hM hK (by decide) (by kernel_rfl))))))))) ?_
  refine OkR.seq (Ok.ifret hM hK (by decide) (by kernel_rfl)) ?_
  refine OkR.seq (Ok.region hM hK (by kernel_rfl)) ?_
  refine OkR.seq (Ok.ifret hM hK (by decide) (by kernel_rfl)) ?_
  refine OkR.seq (Ok.forL hM hK 1 4 1 rfl (by kernel_rfl) (by kernel_rfl) (by kernel_rfl) (by kernel_rfl) (by kernel_rfl) (fun k hK => Ok.seq (Ok.ifret hM hK (by decide) (by kernel_rfl)) (Ok.seq (Ok.region hM hK (by kernel_rfl)) (Ok.ifret hM hK (by decide) (by kernel_rfl))))) ?_
  refine OkR.seq (Ok.ifret hM hK (by decide) (by kernel_rfl)) ?_
  refine OkR.seq (Ok.region hM hK (by kernel_rfl)) ?_
  refine OkR.seq (Ok.ifret hM hK (by decide) (by kernel_rfl)) ?_
  refine OkR.seq (Ok.ifret hM hK (by decide) (by kernel_rfl)) ?_
  refine OkR.seq (Ok.region hM hK (by kernel_rfl)) ?_
  refine OkR.seq (Ok.ifret hM hK (by decide) (by kernel_rfl)) ?_
  refine OkR.seq (Ok.forL hM hK 2 1 1 rfl (by kernel_rfl) (by kernel_rfl) (by kernel_rfl) (by kernel_rfl) (by kernel_rfl) (fun k hK => Ok.seq (Ok.ifret hM hK (by decide) (by kernel_rfl)) (Ok.seq (Ok.region hM hK (by kernel_rfl)) (Ok.ifret hM hK (by decide) (by kernel_rfl))))) ?_
  refine OkR.seq (Ok.ifret hM hK (by decide) (by kernel_rfl)) ?_
  refine OkR.seq (Ok.region hM hK (by kernel_rfl)) ?_
  refine OkR.seq (Ok.ifret hM hK (by decide) (by kernel_rfl)) ?_
  refine OkR.seq (Ok.ifret hM hK (by decide) (by kernel_rfl)) ?_
  refine OkR.seq (Ok.region hM hK (by kernel_rfl)) ?_
  refine OkR.seq (Ok.ifret hM hK (by decide) (by kernel_rfl)) ?_
  refine OkR.seq (Ok.forL hM hK 2 3 3 rfl (by kernel_rfl) (by kernel_rfl) (by kernel_rfl) (by kernel_rfl) (by kernel_rfl) (fun k hK => Ok.seq (Ok.ifret hM hK (by decide) (by kernel_rfl)) (Ok.seq (Ok.region hM hK (by kernel_rfl)) (Ok.seq (Ok.ifret hM hK (by decide) (by kernel_rfl)) (Ok.forI hM hK 2 3 17 rfl rfl rfl (by kernel_rfl) (by kernel_rfl) (by kernel_rfl) (by kernel_rfl) (by kernel_rfl) (fun k hK => Ok.seq (Ok.ifret hM hK (by decide) (by kernel_rfl)) (Ok.seq (Ok.region hM hK (by kernel_rfl)) (Ok.ifret hM hK (by decide) (by kernel_rfl))))))))) ?_
  refine OkR.seq (Ok.ifret hM hK (by decide) (by kernel_rfl)) ?_
  refine OkR.seq (Ok.region hM hK (by kernel_rfl)) ?_
  refine OkR.seq (Ok.ifret hM hK (by decide) (by kernel_rfl)) ?_
  refine OkR.seq (Ok.forL hM hK 2 4 1 rfl (by kernel_rfl) (by kernel_rfl) (by kernel_rfl) (by kernel_rfl) (by kernel_rfl) (fun k hK => Ok.seq (Ok.ifret hM hK (by decide) (by kernel_rfl)) (Ok.seq (Ok.region hM hK (by kernel_rfl)) (Ok.ifret hM hK (by decide) (by kernel_rfl))))) ?_
  refine OkR.seq (Ok.ifret hM hK (by decide) (by kernel_rfl)) ?_
  refine OkR.seq (Ok.region hM hK (by kernel_rfl)) ?_
  refine OkR.seq (Ok.ifret hM hK (by decide) (by kernel_rfl)) ?_
  exact OkR.last (by decide)

end Go.Proofs.Qxb6601448a
