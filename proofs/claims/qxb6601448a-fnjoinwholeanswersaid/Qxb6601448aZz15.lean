/- The guards zzBytes_FnJoinAgreesWithCovers (37), zzBytes_FnJoinWholeAnswer (15): each returns a bool; nothing that was there turns. -/
import Derived.Test.Qxb6601448aZz37
namespace Go.Proofs.Qxb6601448a
open Go.RowKit
set_option linter.unusedVariables false

set_option maxRecDepth 1000000 in
set_option maxHeartbeats 4000000 in
theorem zz15 (r s sv q1 q2 : Int) (sn nm : ByteArray) (a1 a2 a3 a4 a5 b1 b2 b3 b4 b5 vp ve : Value) (na nb : News) (pl es : List ByteArray) (w : World) {lo hi : Nat} (ha : NewsAt lo hi w a1 a2 a3 a4 a5 na) (hb : NewsAt lo hi w b1 b2 b3 b4 b5 nb) (hp : StrsAt lo hi w vp pl) (he : StrsAt lo hi w ve es) (hsn : sn.size ≤ 140737488351232) (hnm : nm.size ≤ 140737488351232) (hh : hi ≤ w.heap.size) :
    Calls Try.prog 15 #[Value.agg #[.int .u64 r, a1, a2, a3, a4, a5, .string sn, .int .u64 sv], .agg #[.int .u64 s, b1, b2, b3, b4, b5], .agg #[.string nm, vp, ve], .int .u64 q1, .int .u64 q2] w fun e w' => (∃ b, e = .returned (.bool b)) ∧ Below w.heap.size w w' := by
  refine calls_of_wp Try.func15 rfl ?_
  have e0 : (⟨#[Value.agg #[.int .u64 r, a1, a2, a3, a4, a5, .string sn, .int .u64 sv], .agg #[.int .u64 s, b1, b2, b3, b4, b5], .agg #[.string nm, vp, ve], .int .u64 q1, .int .u64 q2] ++ Array.replicate (Try.f15.ntmps - 5) undef, []⟩ : Act).tmps.size = 456 := by rw [Try.ntmps15]; simp
  have e1 : (⟨#[Value.agg #[.int .u64 r, a1, a2, a3, a4, a5, .string sn, .int .u64 sv], .agg #[.int .u64 s, b1, b2, b3, b4, b5], .agg #[.string nm, vp, ve], .int .u64 q1, .int .u64 q2] ++ Array.replicate (Try.f15.ntmps - 5) undef, []⟩ : Act).eval (.tmp 0) = .agg #[.int .u64 r, a1, a2, a3, a4, a5, .string sn, .int .u64 sv] := by simp [Act.eval]
  have e2 : (⟨#[Value.agg #[.int .u64 r, a1, a2, a3, a4, a5, .string sn, .int .u64 sv], .agg #[.int .u64 s, b1, b2, b3, b4, b5], .agg #[.string nm, vp, ve], .int .u64 q1, .int .u64 q2] ++ Array.replicate (Try.f15.ntmps - 5) undef, []⟩ : Act).eval (.tmp 1) = .agg #[.int .u64 s, b1, b2, b3, b4, b5] := by simp [Act.eval]
  have e3 : (⟨#[Value.agg #[.int .u64 r, a1, a2, a3, a4, a5, .string sn, .int .u64 sv], .agg #[.int .u64 s, b1, b2, b3, b4, b5], .agg #[.string nm, vp, ve], .int .u64 q1, .int .u64 q2] ++ Array.replicate (Try.f15.ntmps - 5) undef, []⟩ : Act).eval (.tmp 2) = .agg #[.string nm, vp, ve] := by simp [Act.eval]
  have e4 : (⟨#[Value.agg #[.int .u64 r, a1, a2, a3, a4, a5, .string sn, .int .u64 sv], .agg #[.int .u64 s, b1, b2, b3, b4, b5], .agg #[.string nm, vp, ve], .int .u64 q1, .int .u64 q2] ++ Array.replicate (Try.f15.ntmps - 5) undef, []⟩ : Act).defers = [] := rfl
  show Code.wp Try.prog _ _ ⟨#[Value.agg #[.int .u64 r, a1, a2, a3, a4, a5, .string sn, .int .u64 sv], .agg #[.int .u64 s, b1, b2, b3, b4, b5], .agg #[.string nm, vp, ve], .int .u64 q1, .int .u64 q2] ++ Array.replicate (Try.f15.ntmps - 5) undef, []⟩ w
  generalize (⟨#[Value.agg #[.int .u64 r, a1, a2, a3, a4, a5, .string sn, .int .u64 sv], .agg #[.int .u64 s, b1, b2, b3, b4, b5], .agg #[.string nm, vp, ve], .int .u64 q1, .int .u64 q2] ++ Array.replicate (Try.f15.ntmps - 5) undef, []⟩ : Act) = a at e0 e1 e2 e3 e4 ⊢
  refine wp_seq (wp_region_lit (l := [_, _, _, _]) ?_)
  refine x_box40 rfl rfl e1 (x_box27 rfl rfl (by rw [eval_put_ne (by decide)]; exact e2) (x_box42 rfl rfl (by rw [eval_put_ne (by decide), eval_put_ne (by decide)]; exact e3) (x_one rfl (x_assign rfl) (wpList_nil ?_))))
  refine wp_seq (wp_region_lit (l := [_]) (x_one rfl (x_assign rfl) (wpList_nil ?_)))
  obtain ⟨vsa, g3a, g3as⟩ := ha.2.2.1
  obtain ⟨vsb, g3b, g3bs⟩ := hb.2.2.1
  have hs : Same lo hi w (((w.alloc (.cells #[.int .u64 r, a1, a2, a3, a4, a5, .string sn, .int .u64 sv] 40)).alloc (.cells #[.int .u64 s, b1, b2, b3, b4, b5] 27)).alloc (.cells #[.string nm, vp, ve] 42)) := (((Same.refl lo hi w).alloc _ hh).alloc _ (by simp; omega)).alloc _ (by simp; omega)
  have hT := memOK_of (T := newsTable 0 a1 a2 a3 a4 a5 na vsa ++ (([((0, 6), ⟨0, .string sn, sn.size, [], []⟩)] : Table) ++ (newsTable 1 b1 b2 b3 b4 b5 nb vsb ++ ([((2, 0), ⟨0, .string nm, nm.size, [], []⟩), ((2, 1), ⟨1, vp, pl.length, [], []⟩), ((2, 2), ⟨1, ve, es.length, [], []⟩)] : Table)))) (B := fun j => w.heap.size + j) (w := (((w.alloc (.cells #[.int .u64 r, a1, a2, a3, a4, a5, .string sn, .int .u64 sv] 40)).alloc (.cells #[.int .u64 s, b1, b2, b3, b4, b5] 27)).alloc (.cells #[.string nm, vp, ve] 42))) (by
    intro p hq
    rcases List.mem_append.1 hq with hq | hq
    · exact newsTable_ok (b := w.heap.size) (by simp) (ha.1.same hs) (ha.2.1.same hs) (g3a.same hs) (g3as.same hs) (ha.2.2.2.1.same hs) (ha.2.2.2.2.same hs) (by simp [go_sem]) (by simp [go_sem]) (by simp [go_sem]) (by simp [go_sem]) (by simp [go_sem]) p hq
    · rcases List.mem_append.1 hq with hq | hq
      · obtain rfl := List.mem_singleton.1 hq
        exact info_string (by simp [go_sem]) hsn
      · rcases List.mem_append.1 hq with hq | hq
        · exact newsTable_ok (b := w.heap.size + 1) (by simp) (hb.1.same hs) (hb.2.1.same hs) (g3b.same hs) (g3bs.same hs) (hb.2.2.2.1.same hs) (hb.2.2.2.2.same hs) (by simp [go_sem]) (by simp [go_sem]) (by simp [go_sem]) (by simp [go_sem]) (by simp [go_sem]) p hq
        · simp only [List.mem_cons, List.not_mem_nil, or_false] at hq
          rcases hq with rfl | rfl | rfl
          · exact info_string (by simp [go_sem]) hnm
          · exact info_strs (by simp [go_sem]) (hp.same hs)
          · exact info_strs (by simp [go_sem]) (he.same hs))
  have hM : MemOK kinds37 _ _ := hT
  clear hT
  generalize hE : envOf (newsTable 0 a1 a2 a3 a4 a5 na vsa ++ (([((0, 6), ⟨0, .string sn, sn.size, [], []⟩)] : Table) ++ (newsTable 1 b1 b2 b3 b4 b5 nb vsb ++ ([((2, 0), ⟨0, .string nm, nm.size, [], []⟩), ((2, 1), ⟨1, vp, pl.length, [], []⟩), ((2, 2), ⟨1, ve, es.length, [], []⟩)] : Table)))) (fun j => w.heap.size + j) = M at hM
  have hB : ∀ j, M.B j = w.heap.size + j := fun j => by rw [← hE]; rfl
  clear hE
  have hbl : Below w.heap.size w (((w.alloc (.cells #[.int .u64 r, a1, a2, a3, a4, a5, .string sn, .int .u64 sv] 40)).alloc (.cells #[.int .u64 s, b1, b2, b3, b4, b5] 27)).alloc (.cells #[.string nm, vp, ve] 42)) := (((Below.refl _ w).alloc (Nat.le_refl _) _).alloc (by simp) _).alloc (by simp; omega) _
  have z1 : (w.alloc (.cells #[.int .u64 r, a1, a2, a3, a4, a5, .string sn, .int .u64 sv] 40)).heap.size = w.heap.size + 1 := by simp
  have z2 : ((w.alloc (.cells #[.int .u64 r, a1, a2, a3, a4, a5, .string sn, .int .u64 sv] 40)).alloc (.cells #[.int .u64 s, b1, b2, b3, b4, b5] 27)).heap.size = w.heap.size + 2 := by simp
  rw [z1, z2]
  generalize (((w.alloc (.cells #[.int .u64 r, a1, a2, a3, a4, a5, .string sn, .int .u64 sv] 40)).alloc (.cells #[.int .u64 s, b1, b2, b3, b4, b5] 27)).alloc (.cells #[.string nm, vp, ve] 42)) = W at hM hbl ⊢
  clear z1 z2 hs ha hb hp he g3a g3as g3b g3bs e1 e2 e3
  refine OkR.run (M := M) (K := fun _ => 0) (N := 456) (R := 10) (z := 11) (bx := [(5, 0), (6, 1), (7, 2)]) ?_ (at_start ?_ ?_ ?_ ?_) ?_
  rotate_left
  · simp only [size_put]; exact e0
  · simp only [defers_put]; exact e4
  · intro p hp
    simp only [List.mem_cons, List.not_mem_nil, or_false] at hp
    rcases hp with rfl | rfl | rfl
    · rw [eval_put_ne (by decide), eval_put_ne (by decide), eval_put_ne (by decide), eval_put_ne (by decide), eval_put_same (by rw [e0]; decide), hB]
      rfl
    · rw [eval_put_ne (by decide), eval_put_ne (by decide), eval_put_ne (by decide), eval_put_same (by simp only [size_put]; rw [e0]; decide), hB]
    · rw [eval_put_ne (by decide), eval_put_ne (by decide), eval_put_same (by simp only [size_put]; rw [e0]; decide), hB]
  · exact ⟨0, eval_put_same (by simp only [size_put]; rw [e0]; decide)⟩
  · intro a' hD
    obtain ⟨b, hb⟩ := hD.val
    exact bodyPost_ret (results_tmp rfl _ _ _) hD.defers ⟨⟨b, congrArg Ending.returned hb⟩, hbl⟩
  have hK := known_none M (fun _ => 0)
  refine OkR.seq (Ok.ifret hM hK (by decide) (by kernel_rfl)) ?_
  refine OkR.seq (Ok.region hM hK (by kernel_rfl)) ?_
  refine OkR.seq (Ok.ifret hM hK (by decide) (by kernel_rfl)) ?_
  refine OkR.seq (Ok.forL hM hK 0 1 1 rfl (by kernel_rfl) (by kernel_rfl) (by kernel_rfl) (by kernel_rfl) (by kernel_rfl) (fun k hK => Ok.seq (Ok.ifret hM hK (by decide) (by kernel_rfl)) (Ok.seq (Ok.region hM hK (by kernel_rfl)) (Ok.ifret hM hK (by decide) (by kernel_rfl))))) ?_
  refine OkR.seq (Ok.ifret hM hK (by decide) (by kernel_rfl)) ?_
  refine OkR.seq (Ok.region hM hK (by kernel_rfl)) ?_
  refine OkR.seq (Ok.ifret hM hK (by decide) (by kernel_rfl)) ?_
  refine OkR.seq (Ok.ifret hM hK (by decide) (by kernel_rfl)) ?_
  refine OkR.seq (Ok.region hM hK (by kernel_rfl)) ?_
  refine OkR.seq (Ok.ifret hM hK (by decide) (by kernel_rfl)) ?_
  refine OkR.seq (Ok.forL hM hK 0 3 3 rfl (by kernel_rfl) (by kernel_rfl) (by kernel_rfl) (by kernel_rfl) (by kernel_rfl) (fun k hK => Ok.seq (Ok.ifret hM hK (by decide) (by kernel_rfl)) (Ok.seq (Ok.region hM hK (by kernel_rfl)) (Ok.seq (Ok.ifret hM hK (by decide) (by kernel_rfl)) (Ok.forI hM hK 0 3 13 rfl rfl rfl (by kernel_rfl) (by kernel_rfl) (by kernel_rfl) (by kernel_rfl) (by kernel_rfl) (fun k hK => Ok.seq (Ok.ifret hM hK (by decide) (by kernel_rfl)) (Ok.seq (Ok.region hM hK (by kernel_rfl)) (Ok.ifret hM hK (by decide) (by kernel_rfl))))))))) ?_
  refine OkR.seq (Ok.ifret hM hK (by decide) (by kernel_rfl)) ?_
  refine OkR.seq (Ok.region hM hK (by kernel_rfl)) ?_
  refine OkR.seq (Ok.ifret hM hK (by decide) (by kernel_rfl)) ?_
  refine OkR.seq (Ok.forL hM hK 0 4 1 rfl (by kernel_rfl) (by kernel_rfl) (by kernel_rfl) (by kernel_rfl) (by kernel_rfl) (fun k hK => Ok.seq (Ok.ifret hM hK (by decide) (by kernel_rfl)) (Ok.seq (Ok.region hM hK (by kernel_rfl)) (Ok.ifret hM hK (by decide) (by kernel_rfl))))) ?_
  refine OkR.seq (Ok.ifret hM hK (by decide) (by kernel_rfl)) ?_
  refine OkR.seq (Ok.region hM hK (by kernel_rfl)) ?_
  refine OkR.seq (Ok.ifret hM hK (by decide) (by kernel_rfl)) ?_
  refine OkR.seq (Ok.ifret hM hK (by decide) (by kernel_rfl)) ?_
  refine OkR.seq (Ok.region hM hK (by kernel_rfl)) ?_
  refine OkR.seq (Ok.ifret hM hK (by decide) (by kernel_rfl)) ?_
  refine OkR.seq (Ok.ifret hM hK (by decide) (by kernel_rfl)) ?_
  refine OkR.seq (Ok.region hM hK (by kernel_rfl)) ?_
  refine OkR.seq (Ok.ifret hM hK (by decide) (by kernel_rfl)) ?_
  refine OkR.seq (Ok.forL hM hK 1 1 1 rfl (by kernel_rfl) (by kernel_rfl) (by kernel_rfl) (by kernel_rfl) (by kernel_rfl) (fun k hK => Ok.seq (Ok.ifret hM hK (by decide) (by kernel_rfl)) (Ok.seq (Ok.region hM hK (by kernel_rfl)) (Ok.ifret hM hK (by decide) (by kernel_rfl))))) ?_
  refine OkR.seq (Ok.ifret hM hK (by decide) (by kernel_rfl)) ?_
  refine OkR.seq (Ok.region hM hK (by kernel_rfl)) ?_
  refine OkR.seq (Ok.ifret hM hK (by decide) (by kernel_rfl)) ?_
  refine OkR.seq (Ok.ifret hM hK (by decide) (by kernel_rfl)) ?_
  refine OkR.seq (Ok.region hM hK (by kernel_rfl)) ?_
  refine OkR.seq (Ok.ifret hM hK (by decide) (by kernel_rfl)) ?_
  refine OkR.seq (Ok.forL hM hK 1 3 3 rfl (by kernel_rfl) (by kernel_rfl) (by kernel_rfl) (by kernel_rfl) (by kernel_rfl) (fun k hK => Ok.seq (Ok.ifret hM hK (by decide) (by kernel_rfl)) (Ok.seq (Ok.region hM hK (by kernel_rfl)) (Ok.seq (Ok.ifret hM hK (by decide) (by kernel_rfl)) (Ok.forI hM hK 1 3 17 rfl rfl rfl (by kernel_rfl) (by kernel_rfl) (by kernel_rfl) (by kernel_rfl) (by kernel_rfl) (fun k hK => Ok.seq (Ok.ifret hM hK (by decide) (by kernel_rfl)) (Ok.seq (Ok.region hM hK (by kernel_rfl)) (Ok.ifret hM hK (by decide) (by kernel_rfl))))))))) ?_
  refine OkR.seq (Ok.ifret hM hK (by decide) (by kernel_rfl)) ?_
  refine OkR.seq (Ok.region hM hK (by kernel_rfl)) ?_
  refine OkR.seq (Ok.ifret hM hK (by decide) (by kernel_rfl)) ?_
  refine OkR.seq (Ok.forL hM hK 1 4 1 rfl (by kernel_rfl) (by kernel_rfl) (by kernel_rfl) (by kernel_rfl) (by kernel_rfl) (fun k hK => Ok.seq (Ok.ifret hM hK (by decide) (by kernel_rfl)) (Ok.seq (Ok.region hM hK (by kernel_rfl)) (Ok.ifret hM hK (by decide) (by kernel_rfl))))) ?_
  refine OkR.seq (Ok.ifret hM hK (by decide) (by kernel_rfl)) ?_
  refine OkR.seq (Ok.region hM hK (by kernel_rfl)) ?_
  refine OkR.seq (Ok.ifret hM hK (by decide) (by kernel_rfl)) ?_
  refine OkR.seq (Ok.ifret hM hK (by decide) (by kernel_rfl)) ?_
  refine OkR.seq (Ok.region hM hK (by kernel_rfl)) ?_
  refine OkR.seq (Ok.ifret hM hK (by decide) (by kernel_rfl)) ?_
  refine OkR.seq (Ok.ifret hM hK (by decide) (by kernel_rfl)) ?_
  refine OkR.seq (Ok.region hM hK (by kernel_rfl)) ?_
  refine OkR.seq (Ok.ifret hM hK (by decide) (by kernel_rfl)) ?_
  refine OkR.seq (Ok.forL hM hK 2 1 1 rfl (by kernel_rfl) (by kernel_rfl) (by kernel_rfl) (by kernel_rfl) (by kernel_rfl) (fun k hK => Ok.seq (Ok.ifret hM hK (by decide) (by kernel_rfl)) (Ok.seq (Ok.region hM hK (by kernel_rfl)) (Ok.ifret hM hK (by decide) (by kernel_rfl))))) ?_
  refine OkR.seq (Ok.ifret hM hK (by decide) (by kernel_rfl)) ?_
  refine OkR.seq (Ok.region hM hK (by kernel_rfl)) ?_
  refine OkR.seq (Ok.ifret hM hK (by decide) (by kernel_rfl)) ?_
  refine OkR.seq (Ok.forL hM hK 2 2 1 rfl (by kernel_rfl) (by kernel_rfl) (by kernel_rfl) (by kernel_rfl) (by kernel_rfl) (fun k hK => Ok.seq (Ok.ifret hM hK (by decide) (by kernel_rfl)) (Ok.seq (Ok.region hM hK (by kernel_rfl)) (Ok.ifret hM hK (by decide) (by kernel_rfl))))) ?_
  exact OkR.last (by decide)

end Go.Proofs.Qxb6601448a
