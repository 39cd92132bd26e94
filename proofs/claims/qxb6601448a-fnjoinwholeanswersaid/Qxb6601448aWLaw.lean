/- What the model of FnJoinWholeAnswer lists, and that Join's maps are what it lists: no Go in sight. -/
import Derived.Test.Qxb6601448aJoinFacts
namespace Go.Proofs.Qxb6601448a
open Go.RowKit
open Go.Maps (has IsMap Tidy)
set_option linter.unusedVariables false

theorem key_toList {a b : ByteArray} : key a = key b ↔ a.toList = b.toList := by
  refine ⟨key_inj, fun h => ?_⟩
  rw [ByteArray.toList_eq, ByteArray.toList_eq] at h
  simp [key, h]

/-- The i-th name. -/
abbrev at_ (ss : List ByteArray) (i : Nat) : ByteArray := ss.getD i ByteArray.empty

/-- No name behind the i-th, of the first k, is the same. -/
def lastTo (ss : List ByteArray) (k i : Nat) : Bool := (List.range k).all fun j => decide (j ≤ i) || !((at_ ss j).toList == (at_ ss i).toList)

theorem lastTo_iff {ss : List ByteArray} {k i : Nat} : lastTo ss k i = true ↔ ∀ j, j < k → i < j → key (at_ ss j) ≠ key (at_ ss i) := by
  unfold lastTo
  rw [List.all_eq_true]
  constructor
  · intro h j h1 h2 h3
    have := h j (by simpa using h1)
    rw [key_toList] at h3
    rw [Bool.or_eq_true, decide_eq_true_eq] at this
    rcases this with h4 | h4
    · omega
    · rw [h3] at h4
      simp at h4
  · intro h j hj
    have hj' : j < k := by simpa using hj
    by_cases h1 : j ≤ i
    · simp [h1]
    · have := h j hj' (by omega)
      rw [ne_eq, key_toList] at this
      rw [Bool.or_eq_true]
      exact Or.inr (by rw [Bool.not_eq_true', beq_eq_false_iff_ne]; exact this)

section
variable {β : Type} (val : β → Value)

/-- The assignments of the first k names. -/
def assTo (ss : List ByteArray) (f : Nat → Value) (k : Nat) : List (ByteArray × Value) := (List.range k).map fun i => (at_ ss i, f i)
theorem assTo_succ (ss : List ByteArray) (f : Nat → Value) (k : Nat) : assTo ss f (k + 1) = assTo ss f k ++ [(at_ ss k, f k)] := by simp [assTo, List.range_succ]
/-- The entries that the model lists: each name once, at its last place. -/
def entsTo (ss : List ByteArray) (f : Nat → β) (k : Nat) : List (ByteArray × β) := ((List.range k).filter (lastTo ss ss.length)).map fun i => (at_ ss i, f i)
theorem entsTo_succ (ss : List ByteArray) (f : Nat → β) (k : Nat) : entsTo ss f (k + 1) = entsTo ss f k ++ (if lastTo ss ss.length k then [(at_ ss k, f k)] else []) := by
  unfold entsTo
  rw [List.range_succ, List.filter_append, List.map_append]
  by_cases h : lastTo ss ss.length k = true <;> simp [h]

theorem isMap_to (es : List (ByteArray × Value)) : IsMap (mapOf es) := isMap_mapOf es

theorem has_to (ss : List ByteArray) (f : Nat → Value) (kl : Lit) : ∀ k, (has (mapOf (assTo ss f k)) kl = true ↔ ∃ i, i < k ∧ lastTo ss k i = true ∧ key (at_ ss i) = kl) := by
  intro k
  rw [has_mapOf]
  constructor
  · rintro ⟨p, hp, hk⟩
    obtain ⟨i, hi, rfl⟩ := List.mem_map.1 hp
    have hi' : i < k := by simpa using hi
    clear hp hi
    -- the last of its kind
    have : ∀ d i, i < k → k - i ≤ d → key (at_ ss i) = kl → ∃ i, i < k ∧ lastTo ss k i = true ∧ key (at_ ss i) = kl := by
      intro d
      induction d with
      | zero => intro i h1 h2; omega
      | succ d ih =>
        intro i h1 h2 h3
        cases hl : lastTo ss k i with
        | true => exact ⟨i, h1, hl, h3⟩
        | false =>
          have hn : ¬ ∀ j, j < k → i < j → key (at_ ss j) ≠ key (at_ ss i) := fun hh => by
            rw [lastTo_iff.2 hh] at hl
            cases hl
          false_or_by_contra
          rename_i hc
          refine hn fun j h4 h5 h6 => hc (ih j h4 (by omega) (h6.trans h3))
    exact this (k - i) i hi' (Nat.le_refl _) hk
  · rintro ⟨i, h1, h2, h3⟩
    exact ⟨(at_ ss i, f i), List.mem_map.2 ⟨i, by simpa using h1, rfl⟩, h3⟩

theorem val_to (ss : List ByteArray) (f : Nat → Value) : ∀ k i, i < k → lastTo ss k i = true → ∀ zd, (mapOf (assTo ss f k)).atKey (key (at_ ss i)) zd = .held (f i) := by
  intro k
  induction k with
  | zero => intro i h; omega
  | succ k ih =>
    intro i h1 h2 zd
    rw [assTo_succ, mapOf_snoc]
    by_cases hk : i = k
    · subst hk
      exact Maps.atKey_put_same (isMap_mapOf _) (key_lit _) _ _
    · rw [lastTo_iff] at h2
      rw [Maps.atKey_put_other (fun e => h2 k (by omega) (by omega) e.symm)]
      exact ih i (by omega) (lastTo_iff.2 fun j h3 h4 => h2 j (by omega) h4) zd

/-- D is the map of just the entries es. -/
structure Fits (D : DataW Value) (es : List (ByteArray × β)) : Prop where
  nodup : (es.map fun p => key p.1).Nodup
  keys : ∀ kl, has D kl = true ↔ ∃ p ∈ es, key p.1 = kl
  vals : ∀ p ∈ es, ∀ zd, D.atKey (key p.1) zd = .held (val p.2)

/-- The map that the assignments make has the entries that the model lists. -/
theorem fits_ents (ss : List ByteArray) (f : Nat → β) : Fits val (mapOf (assTo ss (fun i => val (f i)) ss.length)) (entsTo ss f ss.length) := by
  refine ⟨?_, fun kl => ?_, fun p hp zd => ?_⟩
  · unfold entsTo List.Nodup
    rw [List.map_map, List.pairwise_map, List.pairwise_filter]
    refine (List.pairwise_lt_range (n := ss.length)).imp_of_mem ?_
    intro a b ha hb hab h1 h2 h3
    have hb' : b < ss.length := by simpa using hb
    exact lastTo_iff.1 h1 b hb' hab h3.symm
  · rw [has_to]
    constructor
    · rintro ⟨i, h1, h2, h3⟩
      exact ⟨(at_ ss i, f i), List.mem_map.2 ⟨i, List.mem_filter.2 ⟨by simpa using h1, h2⟩, rfl⟩, h3⟩
    · rintro ⟨p, hp, h3⟩
      obtain ⟨i, hi, rfl⟩ := List.mem_map.1 hp
      obtain ⟨h1, h2⟩ := List.mem_filter.1 hi
      exact ⟨i, by simpa using h1, h2, h3⟩
  · obtain ⟨i, hi, rfl⟩ := List.mem_map.1 hp
    obtain ⟨h1, h2⟩ := List.mem_filter.1 hi
    exact val_to ss (fun i => val (f i)) ss.length i (by simpa using h1) h2 zd

/-- Whether an entry has the name. -/
def hasE (es : List (ByteArray × β)) (x : ByteArray) : Bool := es.any fun p => p.1.toList == x.toList
theorem hasE_iff {es : List (ByteArray × β)} {x : ByteArray} : hasE es x = true ↔ ∃ p ∈ es, key p.1 = key x := by
  unfold hasE
  rw [List.any_eq_true]
  constructor
  · rintro ⟨p, h1, h2⟩
    exact ⟨p, h1, key_toList.2 (by simpa using h2)⟩
  · rintro ⟨p, h1, h2⟩
    exact ⟨p, h1, by simpa using key_toList.1 h2⟩

/-- What of the incoming entries is new. -/
def freshE (xs : List ByteArray) (base inc : List (ByteArray × β)) : List (ByteArray × β) := inc.filter fun p => !hasE base p.1 && !memS xs p.1

theorem mem_fresh {xs : List ByteArray} {base inc : List (ByteArray × β)} {p : ByteArray × β} : p ∈ freshE xs base inc ↔ p ∈ inc ∧ (¬ ∃ q ∈ base, key q.1 = key p.1) ∧ ¬ goneK xs (key p.1) := by
  unfold freshE
  rw [List.mem_filter, ← hasE_iff, ← memS_key]
  simp

theorem Fits.join {xs : List ByteArray} {D0 E D : DataW Value} {base inc : List (ByteArray × β)} {l : Lit → Bool} (h0 : Fits val D0 base) (h1 : Fits val E inc) (hj : Joined xs D0 E l D) (hl : ∀ kl, l kl = false)   : Fits val D (base ++ freshE xs base inc) := by
  refine ⟨?_, fun kl => ?_, fun p hp zd => ?_⟩
  · rw [List.map_append, List.nodup_append]
    refine ⟨h0.nodup, ?_, ?_⟩
    · exact List.Nodup.sublist (List.Sublist.map _ List.filter_sublist) h1.nodup
    · intro a ha b hb hab
      obtain ⟨p, hp, rfl⟩ := List.mem_map.1 ha
      obtain ⟨q, hq, rfl⟩ := List.mem_map.1 hb
      exact (mem_fresh.1 hq).2.1 ⟨p, hp, hab⟩
  · rw [hj.keys kl, h0.keys kl, h1.keys kl]
    constructor
    · rintro (⟨p, hp, hk⟩ | ⟨⟨p, hp, hk⟩, _, hg⟩)
      · exact ⟨p, List.mem_append.2 (Or.inl hp), hk⟩
      · by_cases hb : ∃ q ∈ base, key q.1 = key p.1
        · obtain ⟨q, hq, hqk⟩ := hb
          exact ⟨q, List.mem_append.2 (Or.inl hq), hqk.trans hk⟩
        · exact ⟨p, List.mem_append.2 (Or.inr (mem_fresh.2 ⟨hp, hb, by rw [hk]; exact hg⟩)), hk⟩
    · rintro ⟨p, hp, hk⟩
      rcases List.mem_append.1 hp with hp | hp
      · exact Or.inl ⟨p, hp, hk⟩
      · obtain ⟨h2, _, h4⟩ := mem_fresh.1 hp
        exact Or.inr ⟨⟨p, h2, hk⟩, hl kl, by rw [← hk]; exact h4⟩
  · rcases List.mem_append.1 hp with hp | hp
    · rw [hj.old _ zd ((h0.keys _).2 ⟨p, hp, rfl⟩)]
      exact h0.vals p hp zd
    · obtain ⟨h2, h3, h4⟩ := mem_fresh.1 hp
      have hn : has D0 (key p.1) = false := by
        cases hh : has D0 (key p.1) with
        | false => rfl
        | true => exact absurd ((h0.keys _).1 hh) h3
      rw [hj.new _ zd hn ((hj.keys _).2 (Or.inr ⟨(h1.keys _).2 ⟨p, h2, rfl⟩, hl _, h4⟩))]
      exact h1.vals p h2 zd

/-- Something has been added. -/
theorem chg_fresh {c0 chg : Bool} {xs : List ByteArray} {D0 E : DataW Value} {base inc : List (ByteArray × β)} {l : Lit → Bool} (h0 : Fits val D0 base) (h1 : Fits val E inc) (hc : Chg c0 xs D0 E l chg) (hl : ∀ kl, l kl = false) : chg = (c0 || decide (0 < (freshE xs base inc).length)) := by
  have hn : ∀ kl, has D0 kl = false ↔ ¬ ∃ q ∈ base, key q.1 = kl := fun kl => by
    rw [← h0.keys kl]
    simp
  have : chg = true ↔ (c0 || decide (0 < (freshE xs base inc).length)) = true := by
    unfold Chg at hc
    rw [hc, Bool.or_eq_true, decide_eq_true_eq, List.length_pos_iff_exists_mem]
    constructor
    · rintro (h | ⟨kl, h2, _, h3, h4⟩)
      · exact Or.inl h
      · obtain ⟨p, hp, rfl⟩ := (h1.keys kl).1 h2
        exact Or.inr ⟨p, mem_fresh.2 ⟨hp, (hn _).1 h3, h4⟩⟩
    · rintro (h | ⟨p, hp⟩)
      · exact Or.inl h
      · obtain ⟨h2, h3, h4⟩ := mem_fresh.1 hp
        exact Or.inr ⟨key p.1, (h1.keys _).2 ⟨p, h2, rfl⟩, hl _, (hn _).2 h3, h4⟩
  cases chg <;> cases hh : (c0 || decide (0 < (freshE xs base inc).length)) <;> simp_all

theorem perm_length {α : Type} {l1 l2 : List α} (h1 : l1.Nodup) (h2 : l2.Nodup) (h : ∀ x, x ∈ l1 ↔ x ∈ l2) : l1.length = l2.length := by
  have := (List.perm_ext_iff_of_nodup h1 h2).2 h
  exact this.length_eq

theorem own_keys {R : Value → Option (DataW Value × List MemPlace)} {w : World} {b n : Nat} {D : DataW Value} (h : w.ownsMap Try.prog 9 R b n D) : ∃ ls : List (Lit × DataW Value), D = .map ls ∧ (ls.map Prod.fst).Nodup ∧ ∀ kl, has D kl = true ↔ kl ∈ ls.map Prod.fst := by
  have ht := h.tidy law9
  obtain ⟨es, clock, _, F, _, rfl⟩ := h
  refine ⟨_, rfl, ?_, fun kl => ?_⟩
  · obtain ⟨ls, e, hp⟩ := ht
    injection e with e
    unfold List.Nodup
    rw [List.pairwise_map, e]
    exact hp
  · rw [Maps.has_eq, List.any_eq_true, List.mem_map]
    constructor
    · rintro ⟨p, hp, hk⟩
      exact ⟨p, hp, WideAt.sameKey_eq hk⟩
    · rintro ⟨p, hp, rfl⟩
      obtain ⟨v, hv⟩ := Maps.fit_keys F p ((WideShapes.sorted_perm _).mem_iff.1 hp)
      exact ⟨p, hp, WideAt.sameKey_self (law9.key hv)⟩

/-- The map has as many entries as the model lists. -/
theorem Fits.size {val : β → Value} {R : Value → Option (DataW Value × List MemPlace)} {lo hi : Nat} {w : World} {mo : Option Nat} {n : Nat} {D : DataW Value} {es : List (ByteArray × β)} (h : Fits val D es) (hm : MapIs R lo hi w mo n D) : Maps.size D = es.length := by
  cases mo with
  | none =>
    have hD : D = .map [] := hm
    subst hD
    cases es with
    | nil => rfl
    | cons p es =>
      have := (h.keys (key p.1)).2 ⟨p, by simp, rfl⟩
      simp [has] at this
  | some b =>
    obtain ⟨ls, rfl, h1, h2⟩ := own_keys hm.2.2
    rw [Maps.size_eq]
    have := perm_length h1 h.nodup (fun kl => by rw [← h2 kl, h.keys kl, List.mem_map])
    simpa using this

end
end Go.Proofs.Qxb6601448a
