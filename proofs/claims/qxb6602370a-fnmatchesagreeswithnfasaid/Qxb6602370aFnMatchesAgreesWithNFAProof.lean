/- The given statement Rows.FnMatchesAgreesWithNFASaid, out of the walk. -/
import Derived.Test.Qxb6602370aRows
import Derived.Test.Qxb6602370aD
import Derived.WalkKit
import Derived.ProofKit
import Derived.OpenShut
import Derived.ShutString
namespace Go.Proofs.Qxb6602370a.fnMatchesAgreesWithNFA
open Go.ChangeShapes Go.WideShapes Go.ChangeAt Go.RowKit
open Go.ChangeMaps (open_string shut_string)
set_option linter.unusedVariables false      -- a walk need not use every 'w<i>' (that an integer argument fits its kind)

theorem own : ownKnob Try.prog.godebug = none := by kernel_rfl

theorem bytes_any (a0 : Bool) (a1 a2 : ByteArray) (w1 : a1.size ≤ maxLen) (w2 : a2.size ≤ maxLen) (w : World) :
    Calls Try.prog 6 #[.bool a0, .string a1, .string a2] w fun e w' => (∃ b, e = .returned (.bool b)) ∧ w' = w := by
  simp only [maxLen] at w1 w2
  go_enter Try.func6, Try.ntmps6
  go_wp2
  all_goals go_ret
  all_goals exact ⟨⟨_, rfl⟩, rfl⟩

theorem rule_any (a : Bool) (s t : ByteArray) (hs : s.size ≤ 4096) (ht : t.size ≤ 4096) (w : World) :
    Calls Try.prog 7 #[.agg #[.bool a, .string s], .string t] w fun e w' => Answers (Acc (anchOf s) (byt (coreOf s)) (byt t) (coreOf s).size t.size 0 0) e ∧ Below w.heap.size w w' := by
  have HM := hide (matches_any a s t hs ht)
  generalize Acc (anchOf s) (byt (coreOf s)) (byt t) (coreOf s).size t.size 0 0 = A at *
  go_enter Try.func7, Try.ntmps7
  go_wp2_with (first | (go_at_call 11; refine (unhide HM _).mono ?_; rintro e w' ⟨⟨b, rfl, hb⟩, hbl⟩; have HX := hide hb; have HL := hide hbl; clear hb hbl) | fail)
  go_ret
  exact ⟨⟨b, rfl, unhide HX⟩, ((Below.refl _ _).alloc (Nat.le_refl _) _).trans ((unhide HL).mono (by simp))⟩

theorem walk (a0 : Bool) (a1 : ByteArray) (a2 : ByteArray) (w1 : a1.size ≤ maxLen) (w2 : a2.size ≤ maxLen) (w : World) :
    Calls Try.prog 3 #[.bool a0, .string a1, .string a2] w fun e w' => e = .returned (.bool true) ∧ Below w.heap.size w w' := by
  have HBY := hide (bytes_any a0 a1 a2 w1 w2)
  simp only [maxLen] at w1 w2
  by_cases hs : a1.size ≤ 4096
  · by_cases ht : a2.size ≤ 4096
    · have HR := hide (rule_any a0 a1 a2 hs ht)
      have HG := hide (glob_any a1 a2 hs ht)
      generalize Acc (anchOf a1) (byt (coreOf a1)) (byt a2) (coreOf a1).size a2.size 0 0 = A at *
      go_enter Try.func3, Try.ntmps3
      go_wp2_with (first | (go_at_call 6; refine (unhide HBY _).mono ?_; rintro e w' ⟨⟨b, rfl⟩, rfl⟩) | (go_at_call 7; refine (unhide HR _).mono ?_; rintro e w3 ⟨⟨x, rfl, hx⟩, hbl⟩; have HX := hide hx; have HL := hide hbl; clear hx hbl) | (go_at_call 8; refine (unhide HG _).mono ?_; rintro e w4 ⟨⟨y, rfl, hy⟩, hbl⟩; have HY := hide hy; have HL2 := hide hbl; clear hy hbl) | fail)
      · go_ret
        exact ⟨rfl, Below.refl _ _⟩
      · go_ret
        refine ⟨?_, (unhide HL).trans ((unhide HL2).mono (unhide HL).size)⟩
        have h1 := unhide HX
        have h2 := unhide HY
        have : x = y := by
          rw [Bool.eq_iff_iff, h1, h2]
        subst this
        simp
    · go_enter Try.func3, Try.ntmps3
      go_wp2_with (first | (go_at_call 6; refine (unhide HBY _).mono ?_; rintro e w' ⟨⟨b, rfl⟩, rfl⟩) | fail)
      all_goals go_ret
      all_goals exact ⟨rfl, Below.refl _ _⟩
  · go_enter Try.func3, Try.ntmps3
    go_wp2_with (first | (go_at_call 6; refine (unhide HBY _).mono ?_; rintro e w' ⟨⟨b, rfl⟩, rfl⟩) | fail)
    all_goals go_ret
    all_goals exact ⟨rfl, Below.refl _ _⟩

/-! ### THE ROW's STEP: WRITTEN OUT: LEAVE IT -/
set_option maxRecDepth 100000 in
theorem lifted (os : Os) (started : os.Started) (H : Type) (enc : TypeId × Value → H) :
    ReturnsInHanded {} Try.checked os 3 .any (Rows.fnMatchesAgreesWithNFASpec.pre6 enc Try.prog Try.f3 Rows.fnMatchesAgreesWithNFARow.domain false) (Rows.fnMatchesAgreesWithNFASpec.post enc Try.prog Try.f3 false true false false) := by
  refine returnsInHanded_of_change (C := Try.checked) own started (by kernel_rfl) Try.func3
    (ChangeSpec.witness6 (enc := enc) (C := Try.checked) false ⟨#[], #[.bool false, .string ByteArray.empty, .string ByteArray.empty], []⟩ 8 (by kernel_rfl) (by kernel_rfl) (by kernel_rfl) (by kernel_rfl)) ?_
  intro W base args ds gs before hval0 hW hcnd _
  have hval : ∀ (j : Nat) t v, Try.f3.params[j]? = some t → args[j]? = some v → Value.okWide Try.prog W .any base t v := hval0
  have hW' := hW
  obtain ⟨p, q, hA0, hV, rfl, hfz, hnd⟩ := hW
  have hA : DataW.TrodAll enc Try.prog W 0 (fun _ => true) true Try.f3.params.toList args.toList ds p := hA0
  rw [Try.params3] at hA hval
  obtain ⟨v0, vs0, d0, ds0, p0, q0, hargs, rfl, rfl, h0, r0⟩ := trodAll_cons hA
  obtain ⟨v1, vs1, d1, ds1, p1, q1, rfl, rfl, rfl, h1, r1⟩ := trodAll_cons r0
  obtain ⟨v2, vs2, d2, ds2, p2, q2, rfl, rfl, rfl, h2, r2⟩ := trodAll_cons r1
  obtain ⟨rfl, rfl, rfl⟩ := trodAll_nil r2
  obtain rfl : args = #[v0, v1, v2] := by cases args; simp_all
  obtain ⟨rfl, rfl⟩ := trodVars_none hV
  obtain ⟨a0, rfl, rfl, rfl⟩ := open_bool Try.underlying4 (hval 0 4 v0 rfl rfl) h0
  obtain ⟨a1, rfl, rfl, rfl, w1⟩ := open_string Try.underlying9 (hval 1 9 v1 rfl rfl) h1
  obtain ⟨a2, rfl, rfl, rfl, w2⟩ := open_string Try.underlying9 (hval 2 9 v2 rfl rfl) h2
  clear hA0 hval0
  simp only [List.append_nil] at hW'
  refine (walk a0 a1 a2 w1 w2 W).mono fun e W' ⟨he, hg⟩ => ?_
  subst he
  exact ⟨_, rfl, _, _, _, [], _, [], hW', trodAll_mk1 (shut_bool Try.underlying4 _),
    (trodAll_cons_mk (shut_bool Try.underlying4 _) (trodAll_cons_mk (shut_string Try.underlying9 w1) (trodAll_cons_mk (shut_string Try.underlying9 w2) trodAll_mk0))), rfl, hg.frame _, fun h => by cases h⟩

theorem over : Rows.fnMatchesAgreesWithNFARow.holds Try.pinned (OpenSpec.ofChange Rows.fnMatchesAgreesWithNFASpec) :=
  OpenClaim.holds_of_wide 3 Try.f3 rfl rfl rfl rfl rfl rfl rfl ⟨rfl, rfl, rfl, rfl, rfl⟩ rfl rfl rfl rfl rfl (by kernel_rfl) Try.func3 (by kernel_rfl)
    (of_decide_eq_true (by kernel_rfl)) (by unfold Func.isWrapper; first | (rw [if_pos (by decide +kernel)]; kernel_rfl) | (rw [if_neg (by decide +kernel)]; exact ⟨rfl, rfl⟩))
    (fun os started H enc _ => lifted os started H enc)

/-- ████ THE STATEMENT ████ -/
theorem proved : Rows.FnMatchesAgreesWithNFASaid :=
  over
end Go.Proofs.Qxb6602370a.fnMatchesAgreesWithNFA
