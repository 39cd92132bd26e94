/- The plain law: the backtracking search and the set of positions answer alike. No Go in sight. -/
namespace Go.Proofs.Qxb6602370a

/-- From position p of the pattern (m bytes) and t of the target (n bytes) the pattern can be matched to its end; where it is anchored, at the target's end. -/
inductive Acc (anch : Bool) (P T : Nat → UInt8) (m n : Nat) : Nat → Nat → Prop
  | fin (t : Nat) : t ≤ n → (anch = true → t = n) → Acc anch P T m n m t
  | skip (p t : Nat) : p < m → P p = 42 → Acc anch P T m n (p + 1) t → Acc anch P T m n p t
  | eat (p t : Nat) : p < m → t < n → P p = 42 → Acc anch P T m n p (t + 1) → Acc anch P T m n p t
  | lit (p t : Nat) : p < m → t < n → P p ≠ 42 → P p = T t → Acc anch P T m n (p + 1) (t + 1) → Acc anch P T m n p t

variable {anch : Bool} {P T : Nat → UInt8} {m n : Nat}

theorem Acc.le {p t : Nat} (h : Acc anch P T m n p t) : t ≤ n := by
  induction h with
  | fin t h1 h2 => exact h1
  | skip p t h1 h2 h3 ih => exact ih
  | eat p t h1 h2 h3 h4 ih => omega
  | lit p t h1 h2 h3 h4 h5 ih => omega

theorem Acc.end_iff {t : Nat} : Acc anch P T m n m t ↔ t ≤ n ∧ (anch = true → t = n) := by
  constructor
  · intro h
    cases h with
    | fin _ h1 h2 => exact ⟨h1, h2⟩
    | skip _ _ h1 h2 h3 => omega
    | eat _ _ h1 h2 h3 h4 => omega
    | lit _ _ h1 h2 h3 h4 h5 => omega
  · rintro ⟨h1, h2⟩
    exact .fin t h1 h2

theorem Acc.star_iff {p t : Nat} (hp : p < m) (hs : P p = 42) : Acc anch P T m n p t ↔ Acc anch P T m n (p + 1) t ∨ (t < n ∧ Acc anch P T m n p (t + 1)) := by
  constructor
  · intro h
    cases h with
    | fin _ h1 h2 => omega
    | skip _ _ h1 h2 h3 => exact Or.inl h3
    | eat _ _ h1 h2 h3 h4 => exact Or.inr ⟨h2, h4⟩
    | lit _ _ h1 h2 h3 h4 h5 => exact absurd hs h3
  · rintro (h | ⟨h1, h2⟩)
    · exact .skip p t hp hs h
    · exact .eat p t hp h1 hs h2

theorem Acc.lit_iff {p t : Nat} (hp : p < m) (hs : P p ≠ 42) : Acc anch P T m n p t ↔ t < n ∧ P p = T t ∧ Acc anch P T m n (p + 1) (t + 1) := by
  constructor
  · intro h
    cases h with
    | fin _ h1 h2 => omega
    | skip _ _ h1 h2 h3 => exact absurd h2 hs
    | eat _ _ h1 h2 h3 h4 => exact absurd h3 hs
    | lit _ _ h1 h2 h3 h4 h5 => exact ⟨h2, h4, h5⟩
  · rintro ⟨h1, h2, h3⟩
    exact .lit p t hp h1 hs h2 h3

/-- A star takes any run in. -/
theorem Acc.star_down {p t : Nat} (hp : p < m) (hs : P p = 42) (d : Nat) (h : Acc anch P T m n p (t + d)) : Acc anch P T m n p t := by
  induction d with
  | zero => exact h
  | succ d ih =>
    have := h.le
    exact ih (.eat p (t + d) hp (by omega) hs h)

/-- From a star, somewhere the rest of the pattern is matched. -/
theorem Acc.star_up {p t : Nat} (hp : p < m) (hs : P p = 42) (h : Acc anch P T m n p t) : ∃ r, t ≤ r ∧ Acc anch P T m n (p + 1) r := by
  have key : ∀ k t, n - t ≤ k → Acc anch P T m n p t → ∃ r, t ≤ r ∧ Acc anch P T m n (p + 1) r := by
    intro k
    induction k with
    | zero =>
      intro t hk h
      rcases (Acc.star_iff hp hs).1 h with h1 | ⟨h1, h2⟩
      · exact ⟨t, Nat.le_refl _, h1⟩
      · omega
    | succ k ih =>
      intro t hk h
      rcases (Acc.star_iff hp hs).1 h with h1 | ⟨h1, h2⟩
      · exact ⟨t, Nat.le_refl _, h1⟩
      · obtain ⟨r, h3, h4⟩ := ih (t + 1) (by omega) h2
        exact ⟨r, by omega, h4⟩
  exact key _ t (Nat.le_refl _) h

/-- What the search knows at its head. -/
def Grd (anch : Bool) (P T : Nat → UInt8) (m n p t : Nat) (star : Int) (r : Nat) : Prop :=
  p ≤ m ∧ t ≤ n ∧ r ≤ t ∧ star < m ∧ -1 ≤ star ∧
  ((star = -1 ∧ (Acc anch P T m n 0 0 ↔ Acc anch P T m n p t)) ∨
   (0 ≤ star ∧ star < p ∧ P star.toNat = 42 ∧ (Acc anch P T m n 0 0 ↔ Acc anch P T m n p t ∨ (r < n ∧ Acc anch P T m n star.toNat (r + 1))) ∧
     ∀ x, Acc anch P T m n (star.toNat + 1) x → Acc anch P T m n p (x + (t - r))))

theorem Grd.start : Grd anch P T m n 0 0 (-1) 0 := ⟨by omega, by omega, by omega, by omega, by omega, Or.inl ⟨rfl, Iff.rfl⟩⟩

theorem Grd.yes {p t : Nat} {star : Int} {r : Nat} (h : Grd anch P T m n p t star r) (hp : p = m) (ht : anch = false ∨ t = n) : Acc anch P T m n 0 0 := by
  obtain ⟨h1, h2, h3, h4, h5, h6⟩ := h
  subst hp
  have ha : Acc anch P T p n p t := Acc.end_iff.2 ⟨h2, fun e => by rcases ht with h | h <;> simp_all⟩
  rcases h6 with ⟨_, h7⟩ | ⟨_, _, _, h7, _⟩
  · exact h7.2 ha
  · exact h7.2 (Or.inl ha)

theorem Grd.star {p t : Nat} {star : Int} {r : Nat} (h : Grd anch P T m n p t star r) (hp : p < m) (hs : P p = 42) : Grd anch P T m n (p + 1) t (p : Int) t := by
  obtain ⟨h1, h2, h3, h4, h5, h6⟩ := h
  refine ⟨by omega, by omega, by omega, by omega, by omega, Or.inr ⟨by omega, by omega, by simpa using hs, ?_, ?_⟩⟩
  · have he : Acc anch P T m n 0 0 ↔ Acc anch P T m n p t := by
      rcases h6 with ⟨_, h7⟩ | ⟨h8, h9, h10, h7, h11⟩
      · exact h7
      · constructor
        · intro ha
          rcases h7.1 ha with h | ⟨h12, h13⟩
          · exact h
          · obtain ⟨x, h14, h15⟩ := h13.star_up (by omega) h10
            have h16 := h11 x h15
            have h17 : x + (t - r) = t + (x - r) := by omega
            rw [h17] at h16
            exact h16.star_down hp hs
        · intro ha
          exact h7.2 (Or.inl ha)
    rw [he, Int.toNat_natCast]
    exact Acc.star_iff hp hs
  · intro x hx
    rw [Int.toNat_natCast] at hx
    rw [Nat.sub_self]
    exact hx

theorem Grd.lit {p t : Nat} {star : Int} {r : Nat} (h : Grd anch P T m n p t star r) (hp : p < m) (hs : P p ≠ 42) (ht : t < n) (he : P p = T t) : Grd anch P T m n (p + 1) (t + 1) star r := by
  obtain ⟨h1, h2, h3, h4, h5, h6⟩ := h
  have hl : Acc anch P T m n p t ↔ Acc anch P T m n (p + 1) (t + 1) := by
    rw [Acc.lit_iff hp hs]
    exact ⟨fun h => h.2.2, fun h => ⟨ht, he, h⟩⟩
  refine ⟨by omega, by omega, by omega, by omega, by omega, ?_⟩
  rcases h6 with ⟨h8, h7⟩ | ⟨h8, h9, h10, h7, h11⟩
  · exact Or.inl ⟨h8, h7.trans hl⟩
  · refine Or.inr ⟨h8, by omega, h10, by rw [h7, hl], fun x hx => ?_⟩
    have := ((Acc.lit_iff hp hs).1 (h11 x hx)).2.2
    rw [show x + (t + 1 - r) = x + (t - r) + 1 by omega]
    exact this

/-- Where the search cannot go on at p and t. -/
def Stuck (anch : Bool) (P T : Nat → UInt8) (m n p t : Nat) : Prop :=
  (p = m ∧ anch = true ∧ t ≠ n) ∨ (p < m ∧ P p ≠ 42 ∧ ¬ (t < n ∧ P p = T t))

theorem Stuck.no {p t : Nat} (h : Stuck anch P T m n p t) : ¬ Acc anch P T m n p t := by
  rcases h with ⟨rfl, h1, h2⟩ | ⟨h1, h2, h3⟩
  · intro h
    exact h2 ((Acc.end_iff.1 h).2 h1)
  · intro h
    obtain ⟨h4, h5, _⟩ := (Acc.lit_iff h1 h2).1 h
    exact h3 ⟨h4, h5⟩

theorem Grd.back {p t : Nat} {star : Int} {r : Nat} (h : Grd anch P T m n p t star r) (hk : Stuck anch P T m n p t) (hs : 0 ≤ star) (hr : r < n) : Grd anch P T m n (star.toNat + 1) (r + 1) star (r + 1) := by
  obtain ⟨h1, h2, h3, h4, h5, h6⟩ := h
  refine ⟨by omega, by omega, by omega, by omega, by omega, ?_⟩
  rcases h6 with ⟨h8, h7⟩ | ⟨h8, h9, h10, h7, h11⟩
  · omega
  · refine Or.inr ⟨h8, by omega, h10, ?_, fun x hx => by rw [Nat.sub_self]; exact hx⟩
    rw [h7, ← Acc.star_iff (by omega) h10]
    exact ⟨fun h => h.elim (fun h => absurd h hk.no) (fun h => h.2), fun h => Or.inr ⟨hr, h⟩⟩

theorem Grd.no {p t : Nat} {star : Int} {r : Nat} (h : Grd anch P T m n p t star r) (hk : Stuck anch P T m n p t) (hs : star < 0 ∨ n ≤ r) : ¬ Acc anch P T m n 0 0 := by
  obtain ⟨h1, h2, h3, h4, h5, h6⟩ := h
  rcases h6 with ⟨h8, h7⟩ | ⟨h8, h9, h10, h7, h11⟩
  · rw [h7]
    exact hk.no
  · rw [h7]
    rintro (h | h)
    · exact hk.no h
    · omega

/-! ### The set of positions. -/

/-- The set f at target position i stands for the whole question. -/
def Nfa (anch : Bool) (P T : Nat → UInt8) (m n : Nat) (f : Nat → Bool) (i : Nat) : Prop :=
  Acc anch P T m n 0 0 ↔ ∃ j, j ≤ m ∧ f j = true ∧ Acc anch P T m n j i

/-- Closed over the stars below k. -/
def Clos (P : Nat → UInt8) (f : Nat → Bool) (k : Nat) : Prop := ∀ j, j < k → f j = true → P j = 42 → f (j + 1) = true

theorem Nfa.start {f : Nat → Bool} (h0 : f 0 = true) (h1 : ∀ j, 0 < j → j ≤ m → f j = false) : Nfa anch P T m n f 0 := by
  constructor
  · intro h
    exact ⟨0, by omega, h0, h⟩
  · rintro ⟨j, h2, h3, h4⟩
    by_cases hj : 0 < j
    · rw [h1 j hj h2] at h3
      cases h3
    · rw [show j = 0 by omega] at h4
      exact h4

/-- One step of the closing: f with j + 1 put in. -/
theorem Nfa.close {f g : Nat → Bool} {i j : Nat} (h : Nfa anch P T m n f i) (hj : j < m) (hf : f j = true) (hs : P j = 42) (hg : g = fun x => if x = j + 1 then true else f x) : Nfa anch P T m n g i := by
  subst hg
  constructor
  · intro ha
    obtain ⟨x, h1, h2, h3⟩ := h.1 ha
    exact ⟨x, h1, by simp [h2], h3⟩
  · rintro ⟨x, h1, h2, h3⟩
    by_cases hx : x = j + 1
    · subst hx
      exact h.2 ⟨j, by omega, hf, .skip j i hj hs h3⟩
    · simp only [if_neg hx] at h2
      exact h.2 ⟨x, h1, h2, h3⟩

theorem Clos.put {f g : Nat → Bool} {j : Nat} (h : Clos P f j) (hg : g = fun x => if x = j + 1 then true else f x) : Clos P g (j + 1) := by
  subst hg
  intro x hx h1 h2
  by_cases hxj : x = j
  · subst hxj
    simp
  · have : f x = true := by simpa [show x ≠ j + 1 by omega] using h1
    have := h x (by omega) this h2
    simp [this]

theorem Clos.pass {f : Nat → Bool} {j : Nat} (h : Clos P f j) (hn : f j = false ∨ P j ≠ 42) : Clos P f (j + 1) := by
  intro x hx h1 h2
  by_cases hxj : x = j
  · subst hxj
    rcases hn with h | h
    · rw [h] at h1; cases h1
    · exact absurd h2 h
  · exact h x (by omega) h1 h2

/-- The next set, before it is closed, built from the positions below k. -/
def Step (P : Nat → UInt8) (c : UInt8) (f g : Nat → Bool) (k : Nat) : Prop :=
  ∀ x, g x = true ↔ (x < k ∧ f x = true ∧ P x = 42) ∨ (∃ y, x = y + 1 ∧ y < k ∧ f y = true ∧ P y ≠ 42 ∧ P y = c)

theorem Step.zero {c : UInt8} {f g : Nat → Bool} (h : ∀ x, g x = false) : Step P c f g 0 := by
  intro x
  rw [h x]
  constructor
  · intro h; cases h
  · rintro (⟨h, _⟩ | ⟨y, _, h, _⟩) <;> omega

theorem Step.off {c : UInt8} {f g : Nat → Bool} {k : Nat} (h : Step P c f g k) (hn : f k = false ∨ (P k ≠ 42 ∧ P k ≠ c)) : Step P c f g (k + 1) := by
  intro x
  rw [h x]
  constructor
  · rintro (⟨h1, h2, h3⟩ | ⟨y, h1, h2, h3⟩)
    · exact Or.inl ⟨by omega, h2, h3⟩
    · exact Or.inr ⟨y, h1, by omega, h3⟩
  · rintro (⟨h1, h2, h3⟩ | ⟨y, h1, h2, h3, h4, h5⟩)
    · refine Or.inl ⟨?_, h2, h3⟩
      by_cases hx : x = k
      · subst hx
        rcases hn with h | ⟨h, _⟩
        · rw [h] at h2; cases h2
        · exact absurd h3 h
      · omega
    · refine Or.inr ⟨y, h1, ?_, h3, h4, h5⟩
      by_cases hx : y = k
      · subst hx
        rcases hn with h | ⟨_, h⟩
        · rw [h] at h3; cases h3
        · exact absurd h5 h
      · omega

theorem Step.loops {c : UInt8} {f g g' : Nat → Bool} {k : Nat} (h : Step P c f g k) (hf : f k = true) (hs : P k = 42) (hg : g' = fun x => if x = k then true else g x) : Step P c f g' (k + 1) := by
  subst hg
  intro x
  by_cases hx : x = k
  · subst hx
    simp only [if_pos, true_iff]
    exact Or.inl ⟨by omega, hf, hs⟩
  · simp only [if_neg hx]
    rw [h x]
    constructor
    · rintro (⟨h1, h2, h3⟩ | ⟨y, h1, h2, h3⟩)
      · exact Or.inl ⟨by omega, h2, h3⟩
      · exact Or.inr ⟨y, h1, by omega, h3⟩
    · rintro (⟨h1, h2, h3⟩ | ⟨y, h1, h2, h3, h4, h5⟩)
      · exact Or.inl ⟨by omega, h2, h3⟩
      · refine Or.inr ⟨y, h1, ?_, h3, h4, h5⟩
        by_cases hy : y = k
        · subst hy; exact absurd hs h4
        · omega

theorem Step.goes {c : UInt8} {f g g' : Nat → Bool} {k : Nat} (h : Step P c f g k) (hf : f k = true) (hs : P k ≠ 42) (hc : P k = c) (hg : g' = fun x => if x = k + 1 then true else g x) : Step P c f g' (k + 1) := by
  subst hg
  intro x
  by_cases hx : x = k + 1
  · subst hx
    simp only [if_pos, true_iff]
    exact Or.inr ⟨k, rfl, by omega, hf, hs, hc⟩
  · simp only [if_neg hx]
    rw [h x]
    constructor
    · rintro (⟨h1, h2, h3⟩ | ⟨y, h1, h2, h3⟩)
      · exact Or.inl ⟨by omega, h2, h3⟩
      · exact Or.inr ⟨y, h1, by omega, h3⟩
    · rintro (⟨h1, h2, h3⟩ | ⟨y, h1, h2, h3, h4, h5⟩)
      · refine Or.inl ⟨?_, h2, h3⟩
        by_cases hy : x = k
        · subst hy; exact absurd h3 hs
        · omega
      · exact Or.inr ⟨y, h1, by omega, h3, h4, h5⟩

theorem Nfa.step {f g : Nat → Bool} {i : Nat} (h : Nfa anch P T m n f i) (hc : Clos P f m) (hi : i < n) (hno : ¬ (f m = true ∧ anch = false)) (hs : Step P (T i) f g m) : Nfa anch P T m n g (i + 1) := by
  unfold Nfa at h ⊢
  rw [h]
  constructor
  · rintro ⟨j, h1, h2, h3⟩
    have key : ∀ d j, m - j ≤ d → j ≤ m → f j = true → Acc anch P T m n j i → ∃ x, x ≤ m ∧ g x = true ∧ Acc anch P T m n x (i + 1) := by
      intro d
      induction d with
      | zero =>
        intro j hd h1 h2 h3
        obtain rfl : j = m := by omega
        have h4 := Acc.end_iff.1 h3
        cases anch with
        | false => exact absurd ⟨h2, rfl⟩ hno
        | true => have := h4.2 rfl; omega
      | succ d ih =>
        intro j hd h1 h2 h3
        by_cases hj : j = m
        · exact ih j (by omega) h1 h2 h3
        · by_cases hst : P j = 42
          · rcases (Acc.star_iff (by omega) hst).1 h3 with h4 | ⟨_, h4⟩
            · exact ih (j + 1) (by omega) (by omega) (hc j (by omega) h2 hst) h4
            · exact ⟨j, h1, (hs j).2 (Or.inl ⟨by omega, h2, hst⟩), h4⟩
          · obtain ⟨_, h5, h6⟩ := (Acc.lit_iff (by omega) hst).1 h3
            exact ⟨j + 1, by omega, (hs (j + 1)).2 (Or.inr ⟨j, rfl, by omega, h2, hst, h5⟩), h6⟩
    exact key _ j (Nat.le_refl _) h1 h2 h3
  · rintro ⟨x, h1, h2, h3⟩
    rcases (hs x).1 h2 with ⟨h4, h5, h6⟩ | ⟨y, rfl, h4, h5, h6, h7⟩
    · exact ⟨x, h1, h5, .eat x i h4 hi h6 h3⟩
    · exact ⟨y, by omega, h5, .lit y i h4 hi h6 h7 h3⟩

theorem Nfa.early {f : Nat → Bool} {i : Nat} (h : Nfa anch P T m n f i) (hi : i ≤ n) (hm : f m = true) (ha : anch = false) : Acc anch P T m n 0 0 :=
  h.2 ⟨m, by omega, hm, Acc.end_iff.2 ⟨hi, fun e => by rw [ha] at e; cases e⟩⟩

theorem Nfa.last {f : Nat → Bool} (h : Nfa anch P T m n f n) (hc : Clos P f m) : Acc anch P T m n 0 0 ↔ f m = true := by
  unfold Nfa at h
  rw [h]
  constructor
  · rintro ⟨j, h1, h2, h3⟩
    have key : ∀ d j, m - j ≤ d → j ≤ m → f j = true → Acc anch P T m n j n → f m = true := by
      intro d
      induction d with
      | zero =>
        intro j hd h1 h2 h3
        obtain rfl : j = m := by omega
        exact h2
      | succ d ih =>
        intro j hd h1 h2 h3
        by_cases hj : j = m
        · exact ih j (by omega) h1 h2 h3
        · by_cases hst : P j = 42
          · rcases (Acc.star_iff (by omega) hst).1 h3 with h4 | ⟨h4, _⟩
            · exact ih (j + 1) (by omega) (by omega) (hc j (by omega) h2 hst) h4
            · omega
          · have := ((Acc.lit_iff (by omega) hst).1 h3).1
            omega
    exact key _ j (Nat.le_refl _) h1 h2 h3
  · intro hm
    exact ⟨m, by omega, hm, Acc.end_iff.2 ⟨by omega, fun _ => rfl⟩⟩

end Go.Proofs.Qxb6602370a
