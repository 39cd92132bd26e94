/- The given statement Rows.FnJoinWholeAnswerSaid, out of the walk. -/
import Derived.Test.Qxb6601448aRows
import Derived.Test.Qxb6601448aWOld
import Derived.Test.Qxb6601448aWSame
import Derived.Test.Qxb6601448aWLater
import Derived.Test.Qxb6601448aOpen2
import Derived.ProofKit
import Derived.ChangeOld
import Derived.OpenShut
import Derived.Carry
namespace Go.Proofs.Qxb6601448a.fnJoinWholeAnswer
open Go.ChangeShapes Go.WideShapes Go.ChangeAt Go.RowKit
set_option linter.unusedVariables false

theorem own : ownKnob Try.prog.godebug = none := by kernel_rfl
theorem laidOut : laidOutB Try.prog = true := by kernel_rfl

theorem joinWhole_walk (r s sv : Int) (sn nm : ByteArray) (a1 a2 a3 a4 a5 b1 b2 b3 b4 b5 vp ve : Value) (q1 q2 : Int) (na nb : News) (pl es : List ByteArray) (w : World) {lo hi : Nat} (ha : NewsAt lo hi w a1 a2 a3 a4 a5 na) (hb : NewsAt lo hi w b1 b2 b3 b4 b5 nb) (hp : StrsAt lo hi w vp pl) (he : StrsAt lo hi w ve es) (hsn : sn.size ≤ 140737488351232) (hnm : nm.size ≤ 140737488351232) (hh : hi ≤ w.heap.size) (hr : 0 ≤ r) (hs : 0 ≤ s) :
    Calls Try.prog 4 #[Value.agg #[.int .u64 r, a1, a2, a3, a4, a5, .string sn, .int .u64 sv], .agg #[.int .u64 s, b1, b2, b3, b4, b5], .agg #[.string nm, vp, ve], .int .u64 q1, .int .u64 q2] w fun e w' => e = .returned (.bool true) ∧ Below w.heap.size w w' := by
  by_cases h1 : s = 0 ∨ s < r
  · exact joinWhole_old r s sv sn nm a1 a2 a3 a4 a5 b1 b2 b3 b4 b5 vp ve q1 q2 na nb pl es w ha hb hp he hsn hnm hh hr hs h1
  · by_cases h2 : r = s
    · exact joinWhole_same r s sv sn nm a1 a2 a3 a4 a5 b1 b2 b3 b4 b5 vp ve q1 q2 na nb pl es w ha hb hp he hsn hnm hh hr hs ⟨by omega, h2⟩
    · exact joinWhole_later r s sv sn nm a1 a2 a3 a4 a5 b1 b2 b3 b4 b5 vp ve q1 q2 na nb pl es w ha hb hp he hsn hnm hh hr hs ⟨by omega, by omega⟩

set_option maxRecDepth 100000 in
theorem lifted (os : Os) (started : os.Started) (H : Type) (enc : TypeId × Value → H) :
    ReturnsInHanded {} Try.checked os 4 .any (Rows.fnJoinWholeAnswerSpec.pre6 enc Try.prog Try.f4 Rows.fnJoinWholeAnswerRow.domain false) (Rows.fnJoinWholeAnswerSpec.post enc Try.prog Try.f4 false true false false) := by
  refine returnsInHanded_of_change_sized (C := Try.checked) own started (by kernel_rfl) Try.func4
    (ChangeSpec.witness6 (enc := enc) (C := Try.checked) false ⟨#[], #[.agg #[.int .u64 0, .slice none 0 0, .slice none 0 0, .slice none 0 0, .slice none 0 0, .slice none 0 0, .string ByteArray.empty, .int .u64 0], .agg #[.int .u64 0, .slice none 0 0, .slice none 0 0, .slice none 0 0, .slice none 0 0, .slice none 0 0], .agg #[.string ByteArray.empty, .slice none 0 0, .slice none 0 0], .int .u64 0, .int .u64 0], []⟩ 8 (by kernel_rfl) (by kernel_rfl) (by kernel_rfl) (by kernel_rfl)) ?_
  intro W base args ds gs before hval0 hW hcnd hsz0 _
  have hval : ∀ (j : Nat) t v, Try.f4.params[j]? = some t → args[j]? = some v → Value.okWide Try.prog W .any base t v := hval0
  have hsz : (DataW.weightsEach Try.prog (Try.f4.params.toList ++ Rows.fnJoinWholeAnswerSpec.plain.varTypes Try.prog) (ds ++ gs)).all (· ≤ reachBytes) = true := hsz0
  have hW' := hW
  obtain ⟨p, q, hA0, hV, rfl, hfz, hnd⟩ := hW
  have hA : DataW.TrodAll enc Try.prog W 0 (fun _ => true) true Try.f4.params.toList args.toList ds p := hA0
  rw [Try.params4] at hA hval hsz
  obtain ⟨v0, vs0, d0, ds0, p0, q0, hargs, rfl, rfl, h0, r0⟩ := trodAll_cons hA
  obtain ⟨v1, vs1, d1, ds1, p1, q1, rfl, rfl, rfl, h1, r1⟩ := trodAll_cons r0
  obtain ⟨v2, vs2, d2, ds2, p2, q2, rfl, rfl, rfl, h2, r2⟩ := trodAll_cons r1
  obtain ⟨v3, vs3, d3, ds3, p3, q3, rfl, rfl, rfl, h3, r3⟩ := trodAll_cons r2
  obtain ⟨v4, vs4, d4, ds4, p4, q4, rfl, rfl, rfl, h4, r4⟩ := trodAll_cons r3
  obtain ⟨rfl, rfl, rfl⟩ := trodAll_nil r4
  obtain rfl : args = #[v0, v1, v2, v3, v4] := by cases args; simp_all
  obtain ⟨rfl, rfl⟩ := trodVars_none hV
  have hsz1 : ∀ n ∈ DataW.weightsEach Try.prog ([40, 27, 42, 22, 22] ++ Rows.fnJoinWholeAnswerSpec.plain.varTypes Try.prog) ([d0, d1, d2, d3, d4] ++ []), n ≤ reachBytes := fun n hn => by simpa using List.all_eq_true.1 hsz n hn
  have k0 := h0
  have k1 := h1
  have k2 := h2
  have k3 := h3
  have k4 := h4
  have lt0 : ∀ x ∈ p0, x.block < W.heap.size := by obtain ⟨m, hm⟩ := k0; exact DataW.trod_lt m _ _ _ hm
  have lt1 : ∀ x ∈ p1, x.block < W.heap.size := by obtain ⟨m, hm⟩ := k1; exact DataW.trod_lt m _ _ _ hm
  have lt2 : ∀ x ∈ p2, x.block < W.heap.size := by obtain ⟨m, hm⟩ := k2; exact DataW.trod_lt m _ _ _ hm
  have lt3 : ∀ x ∈ p3, x.block < W.heap.size := by obtain ⟨m, hm⟩ := k3; exact DataW.trod_lt m _ _ _ hm
  have lt4 : ∀ x ∈ p4, x.block < W.heap.size := by obtain ⟨m, hm⟩ := k4; exact DataW.trod_lt m _ _ _ hm
  obtain ⟨r, a1, a2, a3, a4, a5, na, sn, sv, rfl, ha, hr, hsn⟩ := open_snap (hval 0 40 v0 rfl rfl) h0 (fun n hn => hsz1 n (DataW.weights_mem_each (j := 0) rfl rfl n hn))
  obtain ⟨s, b1, b2, b3, b4, b5, nb, rfl, hb, hs⟩ := open_news2 (hval 1 27 v1 rfl rfl) h1 (fun n hn => hsz1 n (DataW.weights_mem_each (j := 1) rfl rfl n hn))
  obtain ⟨nm, vp, ve, pl, es, rfl, hp, he, hnm⟩ := open_site (hval 2 42 v2 rfl rfl) h2 (fun n hn => hsz1 n (DataW.weights_mem_each (j := 2) rfl rfl n hn))
  obtain ⟨x1, rfl, rfl, rfl, _⟩ := open_int Try.underlying22 (hval 3 22 v3 rfl rfl) h3
  obtain ⟨x2, rfl, rfl, rfl, _⟩ := open_int Try.underlying22 (hval 4 22 v4 rfl rfl) h4
  clear hA0 hval0 hsz0
  refine (joinWhole_walk r s sv sn nm a1 a2 a3 a4 a5 b1 b2 b3 b4 b5 vp ve x1 x2 na nb pl es W ha hb hp he hsn hnm (Nat.le_refl _) hr hs).mono fun e W' ⟨he, bel⟩ => ?_
  subst he
  exact ⟨_, rfl, _, _, _, [], _, [], hW', trodAll_mk1 (shut_bool Try.underlying4 _),
    (trodAll_cons_mk (Below.trod laidOut (by kernel_rfl) (of_decide_eq_true (by kernel_rfl)) k0 bel lt0) (trodAll_cons_mk (Below.trod laidOut (by kernel_rfl) (of_decide_eq_true (by kernel_rfl)) k1 bel lt1) (trodAll_cons_mk (Below.trod laidOut (by kernel_rfl) (of_decide_eq_true (by kernel_rfl)) k2 bel lt2) (trodAll_cons_mk (Below.trod laidOut (by kernel_rfl) (of_decide_eq_true (by kernel_rfl)) k3 bel lt3) (trodAll_cons_mk (Below.trod laidOut (by kernel_rfl) (of_decide_eq_true (by kernel_rfl)) k4 bel lt4) trodAll_mk0))))), rfl, bel.frame _, fun h => by cases h⟩

theorem over : Rows.fnJoinWholeAnswerRow.holds Try.pinned (OpenSpec.ofChange Rows.fnJoinWholeAnswerSpec) :=
  OpenClaim.holds_of_wide 4 Try.f4 rfl rfl rfl rfl rfl rfl rfl ⟨rfl, rfl, rfl, rfl, rfl⟩ rfl rfl rfl rfl rfl (by kernel_rfl) Try.func4 (by kernel_rfl)
    (of_decide_eq_true (by kernel_rfl)) (by unfold Func.isWrapper; first | (rw [if_pos (by decide +kernel)]; kernel_rfl) | (rw [if_neg (by decide +kernel)]; exact ⟨rfl, rfl⟩))
    (fun os started H enc _ => lifted os started H enc)

theorem proved : Rows.FnJoinWholeAnswerSaid := over
end Go.Proofs.Qxb6601448a.fnJoinWholeAnswer
