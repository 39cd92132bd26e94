/- Rows of the model's entries in memory; hasMEntry (56), hasFEntry (57). -/
import Derived.Test.Qxb6601448aWLaw
import Derived.Test.Qxb6601448aWSmall
import Derived.OwnWalk
namespace Go.Proofs.Qxb6601448a
open Go.RowKit
set_option linter.unusedVariables false

/-- What a marker's entry holds beside its name: the number, the slice of peers. -/
abbrev MV := Int × Option Addr × Nat × Nat
/-- The cells of a marker's entry, of a final's. -/
def mCells (p : ByteArray × MV) : List Value := [.string p.1, .int .u64 p.2.1, .slice p.2.2.1 p.2.2.2.1 p.2.2.2.2]
def fCells (p : ByteArray × Int) : List Value := [.string p.1, .int .u64 p.2]

/-- v is a slice of the entries es, of c cells each. -/
def EntsAt {β : Type} (c : Nat) (cells : ByteArray × β → List Value) (lo hi : Nat) (w : World) (v : Value) (es : List (ByteArray × β)) : Prop :=
  ∃ g cap, v = .slice (some ⟨g, 0, none⟩) es.length cap ∧ lo ≤ g ∧ g < hi ∧ es.length ≤ cap ∧ es.length ≤ 8192 ∧ (∀ p ∈ es, p.1.size ≤ maxLen) ∧
    ∀ i j, j < c → (h : i < es.length) → w.cell? ⟨g, i * c + j, none⟩ = (cells es[i])[j]?

section
variable {β : Type} {c : Nat} {cells : ByteArray × β → List Value}

theorem EntsAt.same {lo hi : Nat} {w w' : World} {v : Value} {es : List (ByteArray × β)} (h : EntsAt c cells lo hi w v es) (hs : Same lo hi w w') : EntsAt c cells lo hi w' v es := by
  obtain ⟨g, cap, h1, h2, h3, h4, h5, h6, h7⟩ := h
  exact ⟨g, cap, h1, h2, h3, h4, h5, h6, fun i j hj hi => (World.cell?_of_block (hs g h2 h3)).trans (h7 i j hj hi)⟩
theorem EntsAt.mono {lo hi lo' hi' : Nat} {w : World} {v : Value} {es : List (ByteArray × β)} (h : EntsAt c cells lo hi w v es) (h1 : lo' ≤ lo) (h2 : hi ≤ hi') : EntsAt c cells lo' hi' w v es := by
  obtain ⟨g, cap, e1, e2, e3, e⟩ := h
  exact ⟨g, cap, e1, by omega, by omega, e⟩
theorem EntsAt.shape {lo hi : Nat} {w : World} {v : Value} {es : List (ByteArray × β)} (h : EntsAt c cells lo hi w v es) : ∃ g cap, v = .slice (some ⟨g, 0, none⟩) es.length cap := by
  obtain ⟨g, cap, e, _⟩ := h
  exact ⟨g, cap, e⟩

theorem flat_at (hc : ∀ p, (cells p).length = c) : ∀ (es : List (ByteArray × β)) (i j : Nat), j < c → (h : i < es.length) → (es.flatMap cells)[i * c + j]? = (cells es[i])[j]?
  | [], i, j, hj, h => by simp at h
  | p :: es, 0, j, hj, h => by
    rw [List.flatMap_cons, Nat.zero_mul, Nat.zero_add, List.getElem?_append_left (by rw [hc]; exact hj)]
    rfl
  | p :: es, i + 1, j, hj, h => by
    have e : (i + 1) * c + j = c + (i * c + j) := by rw [Nat.succ_mul]; omega
    rw [List.flatMap_cons, e, List.getElem?_append_right (by rw [hc]; omega), hc, Nat.add_sub_cancel_left, flat_at hc es i j hj (by simpa using h)]
    rfl

theorem ents_own {w : World} {base : Nat} {e : TypeId} {g cap : Nat} {es : List (ByteArray × β)} (hc : ∀ p, (cells p).length = c) (h : w.ownsRow base e c (.slice (some ⟨g, 0, none⟩) es.length cap) es.length (es.flatMap cells)) (hb : es.length ≤ 8192) (hs : ∀ p ∈ es, p.1.size ≤ maxLen) : EntsAt c cells base w.heap.size w (.slice (some ⟨g, 0, none⟩) es.length cap) es := by
  have hlt := h.lt g rfl
  have hle : es.length ≤ cap := by
    rcases h.2 with ⟨h', _⟩ | ⟨g', cap', cur, h', _, hg, hl, _⟩
    · cases h'
    · cases h'; exact hl
  refine ⟨g, cap, rfl, hlt.1, hlt.2, hle, hb, hs, fun i j hj hi => ?_⟩
  have hij : i * c + j < es.length * c := by
    have : (i + 1) * c ≤ es.length * c := Nat.mul_le_mul_right _ hi
    rw [Nat.succ_mul] at this
    omega
  rw [h.cellAt _ hij]
  exact flat_at hc es i j hj hi
end

theorem mCells_len (p : ByteArray × MV) : (mCells p).length = 3 := rfl
theorem fCells_len (p : ByteArray × Int) : (fCells p).length = 2 := rfl

theorem hasE_hit {β : Type} {es : List (ByteArray × β)} {x : ByteArray} {k : Nat} (hk : k < es.length) (h : (es[k].1.toList == x.toList) = true) : hasE es x = true := by
  unfold hasE
  rw [List.any_eq_true]
  exact ⟨es[k], List.getElem_mem hk, h⟩
theorem hasE_none {β : Type} {es : List (ByteArray × β)} {x : ByteArray} (h : ∀ j (hj : j < es.length), (es[j].1.toList == x.toList) = false) : hasE es x = false := by
  unfold hasE
  rw [List.any_eq_false]
  intro p hp
  obtain ⟨j, hj, rfl⟩ := List.getElem_of_mem hp
  simp [h j hj]

set_option maxHeartbeats 400000 in
theorem hasMEntry_any (v : Value) (es : List (ByteArray × MV)) (x : ByteArray) (w : World) {lo hi : Nat} (h : EntsAt 3 mCells lo hi w v es) : Calls Try.prog 56 #[v, .string x] w fun e w' => e = .returned (.bool (hasE es x)) ∧ w' = w := by
  obtain ⟨g, cap, rfl, _, _, hcap, hb, _, hc⟩ := h
  have HH : Hid (∀ k (hk : k < es.length), (es[k].1.toList == x.toList) = true → hasE es x = true) := fun k hk hs => hasE_hit hk hs
  have HN : Hid ((∀ j (hj : j < es.length), (es[j].1.toList == x.toList) = false) → hasE es x = false) := hasE_none
  have HC : Hid (∀ k (hk : k < es.length), w.cell? ⟨g, k * 3, none⟩ = some (.string es[k].1)) := fun k hk => hc k 0 (by omega) hk
  clear hc
  generalize hasE es x = res at HH HN ⊢
  obtain ⟨len, hlen⟩ : ∃ len, len = es.length := ⟨_, rfl⟩
  have HL := hide hlen
  rw [← hlen] at hcap hb ⊢
  clear hlen
  go_enter Try.func56, Try.ntmps56
  go_wp2
  go_loop [5] (fun i => ∃ k : Nat, k ≤ len ∧ i = .int .i64 k ∧ ∀ j (hj : j < es.length), j < k → (es[j].1.toList == x.toList) = false) (fun i => len - (intOf i).toNat)
  case atStart => exact ⟨0, Nat.zero_le _, rfl, fun j _ hj => absurd hj (Nat.not_lt_zero _)⟩
  case round =>
    obtain ⟨k, hk, rfl, hpre⟩ := hrel
    have HP := hide hpre
    clear hpre
    by_cases hlt : k < len
    · have hk' : k < es.length := by rw [← unhide HL]; exact hlt
      have hcell := unhide HC k hk'
      have HK := hide (unhide HH k hk')
      have HST : Hid (∀ (e : (es[k].1.toList == x.toList) = false) j (hj : j < es.length), j < k + 1 → (es[j].1.toList == x.toList) = false) := fun e j hj hjk => by
        by_cases h1 : j < k
        · exact unhide HP j hj h1
        · obtain rfl : j = k := by omega
          exact e
      clear HC
      generalize es[k].1 = s at hcell HK HST
      go_wp2
      · go_ret
        exact ⟨by rw [(unhide HK) (by assumption)]; rfl, rfl⟩
      · go_round
        case rel => exact ⟨k + 1, by omega, by go_num, unhide HST (by assumption)⟩
        case measure => simp [intOf]; omega
    · obtain rfl : k = len := by omega
      have HRES := hide (unhide HN (fun j hj => unhide HP j hj (by rw [unhide HL]; exact hj)))
      go_wp2
      go_ret
      exact ⟨by rw [unhide HRES]; rfl, rfl⟩

set_option maxHeartbeats 400000 in
theorem hasFEntry_any (v : Value) (es : List (ByteArray × Int)) (x : ByteArray) (w : World) {lo hi : Nat} (h : EntsAt 2 fCells lo hi w v es) : Calls Try.prog 57 #[v, .string x] w fun e w' => e = .returned (.bool (hasE es x)) ∧ w' = w := by
  obtain ⟨g, cap, rfl, _, _, hcap, hb, _, hc⟩ := h
  have HH : Hid (∀ k (hk : k < es.length), (es[k].1.toList == x.toList) = true → hasE es x = true) := fun k hk hs => hasE_hit hk hs
  have HN : Hid ((∀ j (hj : j < es.length), (es[j].1.toList == x.toList) = false) → hasE es x = false) := hasE_none
  have HC : Hid (∀ k (hk : k < es.length), w.cell? ⟨g, k * 2, none⟩ = some (.string es[k].1)) := fun k hk => hc k 0 (by omega) hk
  clear hc
  generalize hasE es x = res at HH HN ⊢
  obtain ⟨len, hlen⟩ : ∃ len, len = es.length := ⟨_, rfl⟩
  have HL := hide hlen
  rw [← hlen] at hcap hb ⊢
  clear hlen
  go_enter Try.func57, Try.ntmps57
  go_wp2
  go_loop [5] (fun i => ∃ k : Nat, k ≤ len ∧ i = .int .i64 k ∧ ∀ j (hj : j < es.length), j < k → (es[j].1.toList == x.toList) = false) (fun i => len - (intOf i).toNat)
  case atStart => exact ⟨0, Nat.zero_le _, rfl, fun j _ hj => absurd hj (Nat.not_lt_zero _)⟩
  case round =>
    obtain ⟨k, hk, rfl, hpre⟩ := hrel
    have HP := hide hpre
    clear hpre
    by_cases hlt : k < len
    · have hk' : k < es.length := by rw [← unhide HL]; exact hlt
      have hcell := unhide HC k hk'
      have HK := hide (unhide HH k hk')
      have HST : Hid (∀ (e : (es[k].1.toList == x.toList) = false) j (hj : j < es.length), j < k + 1 → (es[j].1.toList == x.toList) = false) := fun e j hj hjk => by
        by_cases h1 : j < k
        · exact unhide HP j hj h1
        · obtain rfl : j = k := by omega
          exact e
      clear HC
      generalize es[k].1 = s at hcell HK HST
      go_wp2
      · go_ret
        exact ⟨by rw [(unhide HK) (by assumption)]; rfl, rfl⟩
      · go_round
        case rel => exact ⟨k + 1, by omega, by go_num, unhide HST (by assumption)⟩
        case measure => simp [intOf]; omega
    · obtain rfl : k = len := by omega
      have HRES := hide (unhide HN (fun j hj => unhide HP j hj (by rw [unhide HL]; exact hj)))
      go_wp2
      go_ret
      exact ⟨by rw [unhide HRES]; rfl, rfl⟩

end Go.Proofs.Qxb6601448a
