/- A proof of a given statement; the frame is written by the kit's program, the walk is by hand. -/
import Derived.Test.Qxb6601539aRows
import Derived.WalkKit
import Derived.ProofKit
import Derived.OpenShut
import Derived.ShutString
import Derived.ChangeOld
import Derived.Below
import Derived.Test.Qxb6601539aNe
import Derived.Laws.CopyOwn
import Derived.OwnWalk
namespace Go.Proofs.Qxb6601539a.fnExtendedNeIsTheUniqueCountWithTheseTwoBytes
open Go.ChangeShapes Go.WideShapes Go.ChangeAt Go.RowKit
open Go.ChangeMaps (open_string shut_string)
set_option linter.unusedVariables false

theorem own : ownKnob Try.prog.godebug = none := by kernel_rfl
theorem laidOut : laidOutB Try.prog = true := by kernel_rfl

/-- WHAT THE WALK IS TOLD OF A SLICE OF INTEGERS THAT CAME IN: it is nil; or it leads to a row of 'cap' cells, the numbers 'zs' (the first 'len' are its elements, the rest its spare room), each fitting its kind. -/
def IsRow (k : IntKind) (w : World) (a : Option Addr) (len cap : Nat) (zs : List Int) : Prop :=
  (a = none ∧ len = 0 ∧ cap = 0 ∧ zs = []) ∨
  ∃ x, a = some x ∧ len ≤ cap ∧ cap ≤ maxLen ∧ zs.length = cap ∧ (∀ i, i < zs.length → w.cell? (x.add i) = some (.int k (zs.getD i 0))) ∧ ∀ n ∈ zs, (Lit.int k n).wf = true

theorem info5 : (Try.prog.info? 5).map (fun i => (i.zero, i.size, i.bytes)) = some (some (.int .u8 0), 1, 1) := by kernel_rfl

theorem ne_facts (x y : Int) (h1 : 0 ≤ x) (h2 : x ≤ 255) (h3 : 0 ≤ y) (h4 : y ≤ 255) : (1 ≤ ne x y ∧ ne x y ≤ 65536) ∧ (ne x y / 256 % 256 == x) = true ∧ (ne x y % 256 == y) = true := by
  unfold ne
  split
  · simp
    omega
  · simp
    omega

/-- A row that was just made, known whole. -/
theorem made_row {w w1 : World} {n : Nat} (h : w1.ownsRow w.heap.size 5 1 (.slice (some ⟨w.heap.size, 0, none⟩) n n) n (madeCells (Value.int .u8 0).cells (n * 1)).toList) (hg : w.grownBy w1 none) :
    w1.heap[w.heap.size]? = some (.cells (List.replicate n (Value.int .u8 0)).toArray 5 (0, 0)) ∧ Below w.heap.size w w1 := by
  refine ⟨?_, (Below.refl _ _).grown hg (Nat.le_refl _) (by simp)⟩
  rcases h.2 with ⟨h', _⟩ | ⟨g, cap, cur, h', _, hh, _, _, hc, ht⟩
  · cases h'
  · cases h'
    rw [hh]
    have e : cur.toList = List.replicate n (Value.int .u8 0) := by
      rw [List.take_of_length_le (by rw [Array.length_toList, hc]; exact Nat.le_refl _)] at ht
      rw [ht]
      simp [Value.cells, toList_madeCells_one]
    rw [← e]

theorem copy_src {w w1 : World} {b off : Nat} {cs : List Value} (h : Hid (∀ j v, cs[j]? = some v → w.cell? ⟨b, off + j, none⟩ = some v)) (hb : Below w.heap.size w w1) (hB : b < w.heap.size) : ∀ j v, cs[j]? = some v → w1.cell? ((⟨b, off, none⟩ : Addr).add j) = some v := fun j v hv => by
  rw [Go.WideShapes.add_plain, hb.cell (by exact hB)]
  exact h.out j v hv

/-! ### STEP 1: THE WALK: the Go text returns true, AND WRITES NOTHING THAT WAS THERE: 'Below w.heap.size w w'' (Derived/Below.lean: '.refl', '.alloc', '.drew', '.setCell' at a new block, '.trans'). Open each 'IsRow' by 'rcases' AHEAD of 'go_enter'; part every test ahead of the walk. -/
theorem walk (a0 : Option Addr) (len0 cap0 : Nat) (z0 : List Int) (w : World) (w0 : IsRow .u8 w a0 len0 cap0 z0) :
    Calls Try.prog 5 #[.slice a0 len0 cap0] w fun e w' => e = .returned (.bool true) ∧ Below w.heap.size w w' := by
  have nilcase : len0 < 2 ∨ (1048576 < len0) ∨ (2 ≤ len0 ∧ len0 ≤ 1048576) := by omega
  have hml : len0 ≤ maxLen := by
    rcases w0 with ⟨_, rfl, _⟩ | ⟨x, _, h1, h2, _⟩
    · exact Nat.zero_le _
    · omega
  unfold maxLen at hml
  rcases nilcase with hs | hbig | ⟨h2, hle⟩
  · clear w0
    have hs' : (len0 : Int) < 2 := by omega
    go_enter Try.func5, Try.ntmps5
    go_wp2
    all_goals go_ret
    all_goals exact ⟨rfl, Below.refl _ _⟩
  · clear w0
    have hs' : (1048576 : Int) < (len0 : Int) := by omega
    go_enter Try.func5, Try.ntmps5
    go_wp2
    all_goals go_ret
    all_goals exact ⟨rfl, Below.refl _ _⟩
  · rcases w0 with ⟨_, rfl, _⟩ | ⟨ad, rfl, hlc, hcm, hzl, hcell, hwf⟩
    · omega
    obtain ⟨b, off, rfl, hc⟩ := ints_at hcell (by omega)
    have hbB : b < w.heap.size := by
      have := hc 0 (by omega)
      unfold World.cell? at this
      rcases Nat.lt_or_ge b w.heap.size with h | h
      · exact h
      · simp [Array.getElem?_eq_none h] at this
    have hx0 := bounds_u8 (hwf (z0.getD 0 0) (by rw [List.getD_eq_getElem?_getD, List.getElem?_eq_getElem (show 0 < z0.length by omega)]; exact List.getElem_mem _))
    have hy0 := bounds_u8 (hwf (z0.getD 1 0) (by rw [List.getD_eq_getElem?_getD, List.getElem?_eq_getElem (show 1 < z0.length by omega)]; exact List.getElem_mem _))
    obtain ⟨cs, hcs⟩ : ∃ cs, cs = (z0.take len0).map (Value.int .u8) := ⟨_, rfl⟩
    have hcl : cs.length = len0 := by rw [hcs]; simp; omega
    have hone : ∀ v ∈ cs, v.oneCell' = true := fun v hv => by
      rw [hcs] at hv
      obtain ⟨z, _, rfl⟩ := List.mem_map.1 hv
      rfl
    have hget : ∀ j v, cs[j]? = some v → w.cell? ⟨b, off + j, none⟩ = some v := fun j v hv => by
      have hj : j < cs.length := (List.getElem?_eq_some_iff.1 hv).1
      have hj1 : j < len0 := by omega
      have hj2 : j < z0.length := by omega
      rw [hc j hj2, ← hv, hcs]
      simp [List.getD, hj1, hj2]
    have hcs0 : cs[0]? = some (.int .u8 (z0.getD 0 0)) := by
      have hj1 : 0 < len0 := by omega
      have hj2 : 0 < z0.length := by omega
      rw [hcs]
      simp [List.getD, hj1, hj2]
    have hcs1 : cs[1]? = some (.int .u8 (z0.getD 1 0)) := by
      have hj1 : 1 < len0 := by omega
      have hj2 : 1 < z0.length := by omega
      rw [hcs]
      simp [List.getD, hj1, hj2]
    generalize z0.getD 0 0 = x at hx0 hcs0
    generalize z0.getD 1 0 = y at hy0 hcs1
    have hne := ne_facts x y hx0.1 hx0.2 hy0.1 hy0.2
    obtain ⟨hx1, hx2⟩ := hx0
    obtain ⟨hy1, hy2⟩ := hy0
    have HCS := hcl
    have HG : Hid (∀ j v, cs[j]? = some v → w.cell? ⟨b, off + j, none⟩ = some v) := hget
    have HONE : Hid (∀ v ∈ cs, v.oneCell' = true) := hone
    have H0 : Hid (cs[0]? = some (.int .u8 x)) := hcs0
    have H1 : Hid (cs[1]? = some (.int .u8 y)) := hcs1
    have HL : Hid (cs.length = len0) := hcl
    have HNE : Hid ((1 ≤ ne x y ∧ ne x y ≤ 65536) ∧ (ne x y / 256 % 256 == x) = true ∧ (ne x y % 256 == y) = true) := hne
    clear hget hone hcs0 hcs1 hcl HCS hne hc hcell hwf hcs hzl
    have hle' : (len0 : Int) ≤ 1048576 := by omega
    have h2' : (2 : Int) ≤ (len0 : Int) := by omega
    obtain ⟨i0, hi, hz0, hz1, hz2⟩ := info_parts info5
    go_enter Try.func5, Try.ntmps5
    go_wp2_with (first | (at_make; refine wpList_make_full _ rfl _ _ 25 rfl w.heap.size 5 i0 (.int .u8 0) 1 Try.underlying25 hi hz0 hz1 _ _ _ _ len0 rfl rfl (by simp) (by simp) (by rw [hz2]; omega) (by unfold maxLen; omega) (Nat.le_refl _) ?_; intro w1 hown hgrow; obtain ⟨hg1, hb1⟩ := made_row hown hgrow) | (have _t := hg1; refine wpList_copy_splice rfl (.tmp 17) (.tmp 18) 25 25 rfl 5 Try.underlying25 (by kernel_rfl) _ _ len0 len0 len0 cap0 rfl rfl w.heap.size 0 (List.replicate len0 (.int .u8 0)) 5 hg1 cs (by rw [HL.out]; simp) (fun _ => ⟨rfl, ⟨b, off, none⟩, rfl, copy_src HG hb1 hbB⟩) (by rw [HL.out]; simp) HONE.out w.heap.size w hb1 (Nat.le_refl _) ?_; intro w2 HG2 hB2) | (go_at_call 8; go_in))
    have hv : ∀ j v, cs[j]? = some v → w2.cell? ⟨w.heap.size, j, none⟩ = some v := fun j v hv => by
      rw [cell_of_row w2 w.heap.size j _ 5 (0, 0) HG2.out]
      simp only [List.getElem?_toArray, splice, List.take_zero, List.nil_append]
      rw [List.getElem?_append_left (List.getElem?_eq_some_iff.1 hv).1]
      exact hv
    have c0 := hv 0 _ H0.out
    have c1 := hv 1 _ H1.out
    obtain ⟨hr, e1, e2⟩ := HNE.out
    clear hv HG2 HG HONE H0 H1 HL HNE hg1 hb1 hown hgrow
    refine (ext9 w.heap.size 0 len0 len0 x y w2 hx1 hx2 hy1 hy2 h2 c0 c1).mono ?_
    rintro e w3 ⟨rfl, k, rfl⟩
    generalize ne x y = N at hr e1 e2 ⊢
    obtain ⟨hr1, hr2⟩ := hr
    go_wp2
    go_ret
    exact ⟨by simp, ⟨hB2.os, hB2.tape, hB2.output, hB2.size, hB2.block⟩⟩

/-! ### THE ROW's STEP: WRITTEN OUT: LEAVE IT -/
set_option maxRecDepth 100000 in
theorem lifted (os : Os) (started : os.Started) (H : Type) (enc : TypeId × Value → H) :
    ReturnsInHanded {} Try.checked os 5 .any (Rows.fnExtendedNeIsTheUniqueCountWithTheseTwoBytesSpec.pre6 enc Try.prog Try.f5 Rows.fnExtendedNeIsTheUniqueCountWithTheseTwoBytesRow.domain false) (Rows.fnExtendedNeIsTheUniqueCountWithTheseTwoBytesSpec.post enc Try.prog Try.f5 false true false false) := by
  refine returnsInHanded_of_change (C := Try.checked) own started (by kernel_rfl) Try.func5
    (ChangeSpec.witness6 (enc := enc) (C := Try.checked) false ⟨#[], #[.slice none 0 0], []⟩ 8 (by kernel_rfl) (by kernel_rfl) (by kernel_rfl) (by kernel_rfl)) ?_
  intro W base args ds gs before hval0 hW hcnd _
  have hval : ∀ (j : Nat) t v, Try.f5.params[j]? = some t → args[j]? = some v → Value.okWide Try.prog W .any base t v := hval0
  have hW' := hW
  obtain ⟨p, q, hA0, hV, rfl, hfz, hnd⟩ := hW
  have hA : DataW.TrodAll enc Try.prog W 0 (fun _ => true) true Try.f5.params.toList args.toList ds p := hA0
  rw [Try.params5] at hA hval
  obtain ⟨v0, vs0, d0, ds0, p0, q0, hargs, rfl, rfl, h0, r0⟩ := trodAll_cons hA
  obtain ⟨rfl, rfl, rfl⟩ := trodAll_nil r0
  obtain rfl : args = #[v0] := by cases args; simp_all
  obtain ⟨rfl, rfl⟩ := trodVars_none hV
  obtain ⟨a0, len0, cap0, rfl⟩ := okWide_slice Try.underlying25 (hval 0 25 v0 rfl rfl)
  have k0 := h0
  have lt0 : ∀ x ∈ p0, x.block < W.heap.size := by obtain ⟨m, hm⟩ := k0; exact DataW.trod_lt m _ _ _ hm
  obtain ⟨z0, w0⟩ : ∃ zs, IsRow .u8 W a0 len0 cap0 zs := by
    obtain ⟨fuel, hf⟩ := h0
    rcases open_ints Try.underlying25 Try.underlying5 (by kernel_rfl) hf with ⟨hcs, _⟩ | ⟨x, l, c, zs, hcs, _, hl, hm, hz, _, hcell, hwz⟩
    · simp [Value.cells] at hcs
      obtain ⟨rfl, rfl, rfl⟩ := hcs
      exact ⟨[], .inl ⟨rfl, rfl, rfl, rfl⟩⟩
    · simp [Value.cells] at hcs
      obtain ⟨rfl, rfl, rfl⟩ := hcs
      exact ⟨zs, .inr ⟨_, rfl, hl, hm, by simpa using hz, hcell, hwz⟩⟩
  clear hA0 hval0
  refine (walk a0 len0 cap0 z0 W w0).mono fun e W' ⟨he, bel⟩ => ?_
  subst he
  exact ⟨_, rfl, _, _, _, [], _, [], hW', trodAll_mk1 (shut_bool Try.underlying4 _), (trodAll_cons_mk (Below.trod laidOut (by kernel_rfl) (of_decide_eq_true (by kernel_rfl)) k0 bel lt0) trodAll_mk0), rfl, bel.frame _, fun h => by cases h⟩

theorem over : Rows.fnExtendedNeIsTheUniqueCountWithTheseTwoBytesRow.holds Try.pinned (OpenSpec.ofChange Rows.fnExtendedNeIsTheUniqueCountWithTheseTwoBytesSpec) :=
  OpenClaim.holds_of_wide 5 Try.f5 rfl rfl rfl rfl rfl rfl rfl ⟨rfl, rfl, rfl, rfl, rfl⟩ rfl rfl rfl rfl rfl (by kernel_rfl) Try.func5 (by kernel_rfl)
    (of_decide_eq_true (by kernel_rfl)) (by unfold Func.isWrapper; first | (rw [if_pos (by decide +kernel)]; kernel_rfl) | (rw [if_neg (by decide +kernel)]; exact ⟨rfl, rfl⟩))
    (fun os started H enc _ => lifted os started H enc)

/-- ████ THE STATEMENT ████ -/
theorem proved : Rows.FnExtendedNeIsTheUniqueCountWithTheseTwoBytesSaid := over
end Go.Proofs.Qxb6601539a.fnExtendedNeIsTheUniqueCountWithTheseTwoBytes
