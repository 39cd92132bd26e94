/- What Join's loops do to a map, with no Go in sight. -/
import Derived.Test.Qxb6601448aCovers
import Derived.Test.Qxb6601448aStr
import Derived.Maps.Views
namespace Go.Proofs.Qxb6601448a
open Go.RowKit
open Go.Maps (has IsMap)
set_option linter.unusedVariables false

/-- The key of an expunged site. -/
def goneK (es : List ByteArray) (kl : Lit) : Prop := ∃ s ∈ es, key s = kl

theorem key_inj {a b : ByteArray} (h : key a = key b) : a.toList = b.toList := by
  rw [ByteArray.toList_eq, ByteArray.toList_eq]
  simpa [key] using h

theorem memS_key (es : List ByteArray) (s : ByteArray) : memS es s = true ↔ goneK es (key s) := by
  unfold memS goneK
  rw [List.any_eq_true]
  constructor
  · rintro ⟨x, h1, h2⟩
    refine ⟨x, h1, ?_⟩
    have : x.toList = s.toList := by simpa using h2
    rw [ByteArray.toList_eq, ByteArray.toList_eq] at this
    simp [key, this]
  · rintro ⟨x, h1, h2⟩
    exact ⟨x, h1, by simpa using key_inj h2⟩

theorem key_lit (s : ByteArray) : WideAt.IsKeyLit (key s) := by
  simp [WideAt.IsKeyLit, key]

/-- The map D under way: D0 and what of E has been seen and is of no expunged site. -/
structure Joined (es : List ByteArray) (D0 E : DataW Value) (left : Lit → Bool) (D : DataW Value) : Prop where
  isMap : IsMap D
  sub : ∀ kl, left kl = true → has E kl = true
  keys : ∀ kl, has D kl = true ↔ has D0 kl = true ∨ (has E kl = true ∧ left kl = false ∧ ¬ goneK es kl)
  old : ∀ kl zd, has D0 kl = true → D.atKey kl zd = D0.atKey kl zd
  new : ∀ kl zd, has D0 kl = false → has D kl = true → D.atKey kl zd = E.atKey kl zd

theorem Joined.start {es : List ByteArray} {D0 E : DataW Value} (h : IsMap D0) : Joined es D0 E (has E) D0 := by
  refine ⟨h, fun _ h => h, fun kl => ?_, fun _ _ _ => rfl, fun kl zd h1 h2 => ?_⟩
  · constructor
    · exact Or.inl
    · rintro (h | ⟨h1, h2, _⟩)
      · exact h
      · rw [h1] at h2; cases h2
  · rw [h1] at h2; cases h2

theorem left_same {left : Lit → Bool} {kl k : Lit} : (left kl && !kl.sameKey k) = true ↔ left kl = true ∧ kl.sameKey k = false := by simp

theorem Joined.skip {es : List ByteArray} {D0 E D : DataW Value} {left : Lit → Bool} {s : ByteArray} (h : Joined es D0 E left D) (hl : left (key s) = true) (hs : has D (key s) = true ∨ goneK es (key s)) : Joined es D0 E (fun z => left z && !z.sameKey (key s)) D := by
  refine ⟨h.isMap, fun kl hk => h.sub kl (left_same.1 hk).1, fun kl => ?_, h.old, h.new⟩
  rw [h.keys kl]
  constructor
  · rintro (h1 | ⟨h1, h2, h3⟩)
    · exact Or.inl h1
    · exact Or.inr ⟨h1, by simp [h2], h3⟩
  · rintro (h1 | ⟨h1, h2, h3⟩)
    · exact Or.inl h1
    · by_cases hk : left kl = true
      · have hsame : kl.sameKey (key s) = true := by simpa [hk] using h2
        have := WideAt.sameKey_eq hsame
        subst this
        rcases hs with hs | hs
        · rcases (h.keys _).1 hs with h4 | ⟨_, h5, _⟩
          · exact Or.inl h4
          · rw [hl] at h5; cases h5
        · exact absurd hs h3
      · exact Or.inr ⟨h1, by simpa using hk, h3⟩

theorem Joined.put {es : List ByteArray} {D0 E D : DataW Value} {left : Lit → Bool} {s : ByteArray} {d : DataW Value} (h : Joined es D0 E left D) (hl : left (key s) = true) (hn : has D (key s) = false) (hg : ¬ goneK es (key s)) (hat : ∀ zd, E.atKey (key s) zd = d) : Joined es D0 E (fun z => left z && !z.sameKey (key s)) (D.put (key s) d) := by
  have hn0 : has D0 (key s) = false := by
    cases h0 : has D0 (key s) with
    | false => rfl
    | true => rw [(h.keys _).2 (Or.inl h0)] at hn; cases hn
  refine ⟨h.isMap.put _ _, fun kl hk => h.sub kl (left_same.1 hk).1, fun kl => ?_, fun kl zd h0 => ?_, fun kl zd h0 h1 => ?_⟩
  · by_cases hk : kl = key s
    · subst hk
      rw [Maps.has_put_same h.isMap (key_lit s)]
      simp only [true_iff]
      exact Or.inr ⟨h.sub _ hl, by simp [WideAt.sameKey_self (key_lit s)], hg⟩
    · rw [Maps.has_put_other hk, h.keys kl]
      have hs : kl.sameKey (key s) = false := by
        cases hh : kl.sameKey (key s) with
        | false => rfl
        | true => exact absurd (WideAt.sameKey_eq hh) hk
      simp [hs]
  · rw [Maps.atKey_put_other (fun e => by subst e; rw [hn0] at h0; cases h0)]
    exact h.old kl zd h0
  · by_cases hk : kl = key s
    · subst hk
      rw [Maps.atKey_put_same h.isMap (key_lit s), hat]
    · rw [Maps.atKey_put_other hk]
      rw [Maps.has_put_other hk] at h1
      exact h.new kl zd h0 h1

/-- Whether something has changed. -/
def Chg (c0 : Bool) (es : List ByteArray) (D0 E : DataW Value) (left : Lit → Bool) (chg : Bool) : Prop :=
  chg = true ↔ c0 = true ∨ ∃ kl, has E kl = true ∧ left kl = false ∧ has D0 kl = false ∧ ¬ goneK es kl

theorem Chg.start {c0 : Bool} {es : List ByteArray} {D0 E : DataW Value} : Chg c0 es D0 E (has E) c0 := by
  constructor
  · exact Or.inl
  · rintro (h | ⟨kl, h1, h2, _⟩)
    · exact h
    · rw [h1] at h2; cases h2

theorem Chg.skip {c0 chg : Bool} {es : List ByteArray} {D0 E D : DataW Value} {left : Lit → Bool} {s : ByteArray} (h : Chg c0 es D0 E left chg) (hj : Joined es D0 E left D) (hl : left (key s) = true) (hs : has D (key s) = true ∨ goneK es (key s)) : Chg c0 es D0 E (fun z => left z && !z.sameKey (key s)) chg := by
  unfold Chg at h ⊢
  rw [h]
  constructor
  · rintro (h1 | ⟨kl, h1, h2, h3⟩)
    · exact Or.inl h1
    · exact Or.inr ⟨kl, h1, by simp [h2], h3⟩
  · rintro (h1 | ⟨kl, h1, h2, h3, h4⟩)
    · exact Or.inl h1
    · refine Or.inr ⟨kl, h1, ?_, h3, h4⟩
      by_cases hk : left kl = true
      · have hsame : kl.sameKey (key s) = true := by simpa [hk] using h2
        have := WideAt.sameKey_eq hsame
        subst this
        rcases hs with hs | hs
        · rcases (hj.keys _).1 hs with h5 | ⟨_, h5, _⟩
          · rw [h5] at h3; cases h3
          · rw [hl] at h5; cases h5
        · exact absurd hs h4
      · simpa using hk

theorem Chg.put {c0 : Bool} {es : List ByteArray} {D0 E D : DataW Value} {left : Lit → Bool} {s : ByteArray} (hj : Joined es D0 E left D) (hl : left (key s) = true) (hn : has D (key s) = false) (hg : ¬ goneK es (key s)) : Chg c0 es D0 E (fun z => left z && !z.sameKey (key s)) true := by
  refine ⟨fun _ => Or.inr ⟨key s, hj.sub _ hl, by simp [WideAt.sameKey_self (key_lit s)], ?_, hg⟩, fun _ => rfl⟩
  cases h0 : has D0 (key s) with
  | false => rfl
  | true => rw [(hj.keys _).2 (Or.inl h0)] at hn; cases hn

end Go.Proofs.Qxb6601448a
