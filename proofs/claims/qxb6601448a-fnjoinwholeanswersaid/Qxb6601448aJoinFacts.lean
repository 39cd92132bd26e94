/- What Join's answer says of Covers, with no Go in sight. -/
import Derived.Test.Qxb6601448aJoin2
import Derived.Test.Qxb6601448aSizes
namespace Go.Proofs.Qxb6601448a
open Go.RowKit
open Go.Maps (has IsMap)
set_option linter.unusedVariables false

theorem isMap_fold : ∀ (es : List (ByteArray × Value)) (D : DataW Value), IsMap D → IsMap (es.foldl (fun D p => D.put (key p.1) (.held p.2)) D)
  | [], D, h => h
  | p :: es, D, h => isMap_fold es _ (h.put _ _)
theorem isMap_mapOf (es : List (ByteArray × Value)) : IsMap (mapOf es) := isMap_fold es _ Maps.isMap_empty

theorem has_fold (kl : Lit) : ∀ (es : List (ByteArray × Value)) (D : DataW Value), IsMap D → (has (es.foldl (fun D p => D.put (key p.1) (.held p.2)) D) kl = true ↔ has D kl = true ∨ ∃ p ∈ es, key p.1 = kl)
  | [], D, h => by simp
  | p :: es, D, h => by
    rw [List.foldl_cons, has_fold kl es _ (h.put _ _)]
    by_cases hk : kl = key p.1
    · subst hk
      rw [Maps.has_put_same h (key_lit p.1)]
      simp
    · rw [Maps.has_put_other hk]
      constructor
      · rintro (h1 | ⟨q, h1, h2⟩)
        · exact Or.inl h1
        · exact Or.inr ⟨q, List.mem_cons_of_mem _ h1, h2⟩
      · rintro (h1 | ⟨q, h1, h2⟩)
        · exact Or.inl h1
        · rcases List.mem_cons.1 h1 with rfl | h1
          · exact absurd h2.symm hk
          · exact Or.inr ⟨q, h1, h2⟩

theorem has_mapOf (es : List (ByteArray × Value)) (kl : Lit) : has (mapOf es) kl = true ↔ ∃ p ∈ es, key p.1 = kl := by
  unfold mapOf
  rw [has_fold kl es _ Maps.isMap_empty]
  simp [has]

theorem has_marks {ss : List ByteArray} {zs : List Int} {vs : List Value} {kl : Lit} (h : has (mapOf (marks ss zs vs)) kl = true) : ∃ s ∈ ss, key s = kl := by
  obtain ⟨p, hp, hk⟩ := (has_mapOf _ _).1 h
  obtain ⟨i, hi, rfl⟩ := List.mem_map.1 hp
  have hi' : i < ss.length := by simpa using hi
  exact ⟨ss[i], List.getElem_mem hi', by simpa [List.getD, hi'] using hk⟩
theorem has_fins {ss : List ByteArray} {zs : List Int} {kl : Lit} (h : has (mapOf (fins ss zs)) kl = true) : ∃ s ∈ ss, key s = kl := by
  obtain ⟨p, hp, hk⟩ := (has_mapOf _ _).1 h
  obtain ⟨i, hi, rfl⟩ := List.mem_map.1 hp
  have hi' : i < ss.length := by simpa using hi
  exact ⟨ss[i], List.getElem_mem hi', by simpa [List.getD, hi'] using hk⟩

/-- None of E's keys is an expunged site's. -/
def Clear (es : List ByteArray) (E : DataW Value) : Prop := ∀ kl, has E kl = true → ¬ goneK es kl

theorem clear_marks {ss : List ByteArray} {zs : List Int} {vs : List Value} {es : List ByteArray} (h : ss.any (memS es) = false) : Clear es (mapOf (marks ss zs vs)) := fun kl hk hg => by
  obtain ⟨s, hs, rfl⟩ := has_marks hk
  rw [List.any_eq_false] at h
  exact absurd ((memS_key es s).2 hg) (h s hs)
theorem clear_fins {ss : List ByteArray} {zs : List Int} {es : List ByteArray} (h : ss.any (memS es) = false) : Clear es (mapOf (fins ss zs)) := fun kl hk hg => by
  obtain ⟨s, hs, rfl⟩ := has_fins hk
  rw [List.any_eq_false] at h
  exact absurd ((memS_key es s).2 hg) (h s hs)

theorem joined_sub {es : List ByteArray} {D0 E D : DataW Value} {l : Lit → Bool} (h : Joined es D0 E l D) (hl : ∀ kl, l kl = false) (hc : Clear es E) : Sub D D0 ∧ Sub D E :=
  ⟨fun kl hk => (h.keys kl).2 (Or.inl hk), fun kl hk => (h.keys kl).2 (Or.inr ⟨hk, hl kl, hc kl hk⟩)⟩

theorem chg_sub {c0 chg : Bool} {es : List ByteArray} {D0 E : DataW Value} {l : Lit → Bool} (h : Chg c0 es D0 E l chg) (hl : ∀ kl, l kl = false) (hc : Clear es E) : chg = true ↔ c0 = true ∨ ¬ Sub D0 E := by
  unfold Chg at h
  rw [h]
  constructor
  · rintro (h1 | ⟨kl, h1, h2, h3, h4⟩)
    · exact Or.inl h1
    · refine Or.inr fun hs => ?_
      rw [hs kl h1] at h3
      cases h3
  · rintro (h1 | h1)
    · exact Or.inl h1
    · refine Or.inr ?_
      false_or_by_contra
      rename_i hn
      refine h1 fun kl hk => ?_
      cases h2 : has D0 kl with
      | true => rfl
      | false => exact absurd ⟨kl, hk, hl kl, h2, hc kl hk⟩ hn

/-- News of the same round. -/
theorem end_eq {es : List ByteArray} {D0 E F0 G : DataW Value} {mb fb : Nat} {W wf : World} {chg : Bool} {r : Int} (h : JoinEnd es D0 E F0 G mb fb false W wf chg) (hE : Clear es E) (hG : Clear es G) :
    (chg = true ↔ ¬ CoversP r D0 F0 r E G) ∧ ∃ n D m F, wf.ownsMap Try.prog 9 mkR mb n D ∧ wf.ownsMap Try.prog 9 fiR fb m F ∧ CoversP r D F r D0 F0 ∧ CoversP r D F r E G := by
  obtain ⟨n, D, m, F, c1, l1, l2, o1, j1, e1, g1, o2, j2, e2, g2, _⟩ := h
  have s1 := joined_sub j1 e1 hE
  have s2 := joined_sub j2 e2 hG
  refine ⟨?_, n, D, m, F, o1, o2, Or.inr ⟨rfl, s1.1, s2.1⟩, Or.inr ⟨rfl, s1.2, s2.2⟩⟩
  rw [chg_sub g2 e2 hG, chg_sub g1 e1 hE]
  simp only [CoversP, Bool.false_eq_true, false_or, Int.lt_irrefl, true_and]
  constructor
  · rintro (h1 | h1) ⟨h2, h3⟩
    · exact h1 h2
    · exact h1 h3
  · intro h1
    by_cases h2 : Sub D0 E
    · exact Or.inr fun h3 => h1 ⟨h2, h3⟩
    · exact Or.inl h2

/-- News of a later round. -/
theorem end_gt {es : List ByteArray} {D0 E F0 G D1 F1 : DataW Value} {mb fb : Nat} {W wf : World} {chg : Bool} {r s : Int} (hrs : r < s) (h : JoinEnd es D0 E F0 G mb fb true W wf chg) (hE : Clear es E) (hG : Clear es G) :
    (chg = true ↔ ¬ CoversP r D1 F1 s E G) ∧ ∃ n D m F, wf.ownsMap Try.prog 9 mkR mb n D ∧ wf.ownsMap Try.prog 9 fiR fb m F ∧ CoversP s D F r D1 F1 ∧ CoversP s D F s E G := by
  obtain ⟨n, D, m, F, c1, l1, l2, o1, j1, e1, g1, o2, j2, e2, g2, _⟩ := h
  have s1 := joined_sub j1 e1 hE
  have s2 := joined_sub j2 e2 hG
  refine ⟨?_, n, D, m, F, o1, o2, Or.inl hrs, Or.inr ⟨rfl, s1.2, s2.2⟩⟩
  rw [chg_sub g2 e2 hG, chg_sub g1 e1 hE]
  have hn : ¬ CoversP r D1 F1 s E G := by
    rintro (h1 | ⟨h1, _⟩) <;> omega
  simp [hn]

/-- Old news. -/
theorem end_lt {D F E G : DataW Value} {r s : Int} (h : s < r) : ((false = true) ↔ ¬ CoversP r D F s E G) ∧ CoversP r D F r D F ∧ CoversP r D F s E G :=
  ⟨by simp [CoversP, h], Or.inr ⟨rfl, fun _ h => h, fun _ h => h⟩, Or.inl h⟩

end Go.Proofs.Qxb6601448a
