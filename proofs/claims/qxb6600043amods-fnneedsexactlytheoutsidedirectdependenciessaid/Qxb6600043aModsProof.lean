import Derived.Test.Qxb6600043aModsRows
import Derived.Test.Qxb6600043aModsLw
import Derived.ProofKit
import Derived.OpenShut
import Derived.ShutString
import Derived.ChangeOld
import Derived.SliceStrings
import Derived.Deep.Slices
namespace Go.Proofs.Qxb6600043aMods.L
open Go.ChangeShapes Go.WideShapes Go.ChangeAt Go.RowKit
open Go.ChangeMaps (open_string shut_string)
set_option linter.unusedVariables false

theorem own : ownKnob Trym.prog.godebug = none := by kernel_rfl
theorem laidOut : laidOutB Trym.prog = true := by kernel_rfl

/-- What the reading of a slice gives the walk. -/
theorem row_of {α : Type} {val : α → Value} {d : α} {W : World} {a : Addr} {len cap : Nat} {xs : List α} (hl : len ≤ cap) (hz : xs.length = cap) (hcell : ∀ i, i < xs.length → W.cell? (a.add i) = some (val (xs.getD i d))) :
    Row val d W (some a) len (xs.take len) := by
  refine ⟨by simp; omega, ?_⟩
  by_cases h0 : len = 0
  · exact .inl h0
  obtain ⟨b, off, spot⟩ := a
  have hspot : spot = none := by simpa [Addr.add] using World.cell?_spot (hcell 0 (by omega))
  subst hspot
  refine .inr ⟨b, off, rfl, ?_, fun i hi => ?_⟩
  · have := World.block_lt_of_cell? W _ (hcell 0 (by omega))
    simpa [Addr.add] using this
  · have h := hcell i (by omega)
    rw [add_plain] at h
    rw [h]
    simp [List.getD, hi]

/-! ### THE ROW's STEP -/
set_option maxRecDepth 100000 in
theorem lifted (os : Os) (started : os.Started) (H : Type) (enc : TypeId × Value → H) :
    ReturnsInHanded {} Trym.checked os 3 .any (Rows.fnNeedsExactlyTheOutsideDirectDependenciesSpec.pre6 enc Trym.prog Trym.f3 Rows.fnNeedsExactlyTheOutsideDirectDependenciesRow.domain false) (Rows.fnNeedsExactlyTheOutsideDirectDependenciesSpec.post enc Trym.prog Trym.f3 false true false false) := by
  refine returnsInHanded_of_change (C := Trym.checked) own started (by kernel_rfl) Trym.func3
    (ChangeSpec.witness6 (enc := enc) (C := Trym.checked) false ⟨#[], #[.slice none 0 0, .slice none 0 0, .slice none 0 0], []⟩ 8 (by kernel_rfl) (by kernel_rfl) (by kernel_rfl) (by kernel_rfl)) ?_
  intro W base args ds gs before hval0 hW hcnd _
  have hval : ∀ (j : Nat) t v, Trym.f3.params[j]? = some t → args[j]? = some v → Value.okWide Trym.prog W .any base t v := hval0
  have hW' := hW
  obtain ⟨p, q, hA0, hV, rfl, hfz, hnd⟩ := hW
  have hA : DataW.TrodAll enc Trym.prog W 0 (fun _ => true) true Trym.f3.params.toList args.toList ds p := hA0
  rw [Trym.params3] at hA hval
  obtain ⟨v0, vs0, d0, ds0, p0, q0, hargs, rfl, rfl, h0, r0⟩ := trodAll_cons hA
  obtain ⟨v1, vs1, d1, ds1, p1, q1, rfl, rfl, rfl, h1, r1⟩ := trodAll_cons r0
  obtain ⟨v2, vs2, d2, ds2, p2, q2, rfl, rfl, rfl, h2, r2⟩ := trodAll_cons r1
  obtain ⟨rfl, rfl, rfl⟩ := trodAll_nil r2
  obtain rfl : args = #[v0, v1, v2] := by cases args; simp_all
  obtain ⟨rfl, rfl⟩ := trodVars_none hV
  obtain ⟨a0, len0, cap0, rfl⟩ := okWide_slice Trym.underlying22 (hval 0 22 v0 rfl rfl)
  have k0 := h0
  have lt0 : ∀ x ∈ p0, x.block < W.heap.size := by obtain ⟨m, hm⟩ := k0; exact DataW.trod_lt m _ _ _ hm
  obtain ⟨z0, w0, lc0, cm0, wf0⟩ : ∃ xs, Row Value.string ByteArray.empty W a0 len0 xs ∧ len0 ≤ cap0 ∧ cap0 ≤ maxLen ∧ (∀ s ∈ xs, s.size ≤ maxLen) := by
    obtain ⟨fuel, hf⟩ := h0
    rcases open_strings Trym.underlying22 Trym.underlying9 (by kernel_rfl) hf with ⟨hcs, _⟩ | ⟨x, l, c, zs, hcs, _, hl, hm, hz, _, hcell, hwz⟩
    · simp [Value.cells] at hcs
      obtain ⟨rfl, rfl, rfl⟩ := hcs
      exact ⟨[], ⟨rfl, .inl rfl⟩, Nat.le_refl _, Nat.zero_le _, by simp⟩
    · simp [Value.cells] at hcs
      obtain ⟨rfl, rfl, rfl⟩ := hcs
      exact ⟨zs.take len0, row_of hl (by simpa using hz) hcell, hl, hm, fun s hs => hwz s (List.mem_of_mem_take hs)⟩
  obtain ⟨a1, len1, cap1, rfl⟩ := okWide_slice Trym.underlying23 (hval 1 23 v1 rfl rfl)
  have k1 := h1
  have lt1 : ∀ x ∈ p1, x.block < W.heap.size := by obtain ⟨m, hm⟩ := k1; exact DataW.trod_lt m _ _ _ hm
  obtain ⟨hs1, z1, w1, lc1, cm1, rs1, ft1⟩ : ∃ (hs : List Hdr) (dss : List (List ByteArray)), Row hv L.d0 W a1 len1 hs ∧ len1 ≤ cap1 ∧ cap1 ≤ maxLen ∧ Rows W hs dss ∧ Fits hs dss := by
    obtain ⟨fuel, hf⟩ := h1
    rcases Go.Deep.open_slice1 Trym.underlying23 (by kernel_rfl) hf with ⟨hcs, _⟩ | ⟨x, l, c, m, n, V, D, Pl, hcs, _, hl, hm, hmm, _, hel⟩
    · simp [Value.cells] at hcs
      obtain ⟨rfl, rfl, rfl⟩ := hcs
      exact ⟨[], [], ⟨rfl, .inl rfl⟩, Nat.le_refl _, Nat.zero_le _, ⟨rfl, fun i => by simp [L.d0]; exact Row.empty _ _⟩, fun i => by simp [L.d0]⟩
    · simp [Value.cells] at hcs
      obtain ⟨rfl, rfl, rfl⟩ := hcs
      have hml : len1 ≤ m := by simp at hmm; omega
      obtain ⟨f, hfx⟩ := Go.Deep.choose_lt (α := Hdr × List ByteArray) (n := len1) (p := fun i y => V i = hv y.1 ∧ Strs W y.1.1 y.1.2.1 y.2 ∧ y.1.2.1 ≤ maxLen ∧ ∀ s ∈ y.2, s.size ≤ maxLen) (fun i hi => by
        obtain ⟨_, ht⟩ := hel i (by omega)
        rcases open_strings Trym.underlying22 Trym.underlying9 (by kernel_rfl) ht with ⟨hcs, _⟩ | ⟨x', l', c', zs, hcs, _, hl', hm', hz, _, hcell, hwz⟩
        · simp at hcs
          exact ⟨((none, 0, 0), []), hcs, Row.empty _ _, Nat.zero_le _, by simp⟩
        · simp at hcs
          exact ⟨((some x', l', c'), zs.take l'), hcs, row_of hl' (by simpa using hz) hcell, Nat.le_trans hl' hm', fun s hs => hwz s (List.mem_of_mem_take hs)⟩)
      have hg1 : ∀ i, i < len1 → ((List.range len1).map fun i => (f i).1).getD i L.d0 = (f i).1 := fun i hi => by simp [List.getD, hi]
      have hg2 : ∀ i, i < len1 → ((List.range len1).map fun i => (f i).2).getD i [] = (f i).2 := fun i hi => by simp [List.getD, hi]
      have ho1 : ∀ i, ¬ i < len1 → ((List.range len1).map fun i => (f i).1).getD i L.d0 = L.d0 := fun i hi => by simp [List.getD, hi]
      have ho2 : ∀ i, ¬ i < len1 → ((List.range len1).map fun i => (f i).2).getD i [] = [] := fun i hi => by simp [List.getD, hi]
      refine ⟨(List.range len1).map fun i => (f i).1, (List.range len1).map fun i => (f i).2, ?_, hl, hm, ⟨by simp, fun i => ?_⟩, fun i => ?_⟩
      · have := row_of (val := hv) (d := L.d0) (W := W) (a := x) (len := len1) (cap := len1) (xs := (List.range len1).map fun i => (f i).1) (Nat.le_refl _) (by simp) (fun i hi => by
          have hi' : i < len1 := by simpa using hi
          rw [hg1 i hi', ← (hfx i hi').1]
          exact (hel i (by omega)).1)
        rwa [List.take_of_length_le (by simp)] at this
      · by_cases hi : i < len1
        · rw [hg1 i hi, hg2 i hi]
          exact (hfx i hi).2.1
        · rw [ho1 i hi, ho2 i hi]
          exact Row.empty _ _
      · by_cases hi : i < len1
        · rw [hg1 i hi, hg2 i hi]
          exact (hfx i hi).2.2
        · rw [ho1 i hi, ho2 i hi]
          exact ⟨Nat.zero_le _, by simp⟩
  obtain ⟨a2, len2, cap2, rfl⟩ := okWide_slice Trym.underlying22 (hval 2 22 v2 rfl rfl)
  have k2 := h2
  have lt2 : ∀ x ∈ p2, x.block < W.heap.size := by obtain ⟨m, hm⟩ := k2; exact DataW.trod_lt m _ _ _ hm
  obtain ⟨z2, w2, lc2, cm2, wf2⟩ : ∃ xs, Row Value.string ByteArray.empty W a2 len2 xs ∧ len2 ≤ cap2 ∧ cap2 ≤ maxLen ∧ (∀ s ∈ xs, s.size ≤ maxLen) := by
    obtain ⟨fuel, hf⟩ := h2
    rcases open_strings Trym.underlying22 Trym.underlying9 (by kernel_rfl) hf with ⟨hcs, _⟩ | ⟨x, l, c, zs, hcs, _, hl, hm, hz, _, hcell, hwz⟩
    · simp [Value.cells] at hcs
      obtain ⟨rfl, rfl, rfl⟩ := hcs
      exact ⟨[], ⟨rfl, .inl rfl⟩, Nat.le_refl _, Nat.zero_le _, by simp⟩
    · simp [Value.cells] at hcs
      obtain ⟨rfl, rfl, rfl⟩ := hcs
      exact ⟨zs.take len2, row_of hl (by simpa using hz) hcell, hl, hm, fun s hs => hwz s (List.mem_of_mem_take hs)⟩
  clear hA0 hval0
  refine (needsLaw_any a0 len0 cap0 z0 a1 len1 cap1 hs1 z1 a2 len2 cap2 z2 W w0 w1 rs1 ft1 w2 (Nat.le_trans lc0 cm0) (Nat.le_trans lc1 cm1) (Nat.le_trans lc2 cm2) wf0 wf2).mono fun e W' ⟨he, bel⟩ => ?_
  subst he
  exact ⟨_, rfl, _, _, _, [], _, [], hW', trodAll_mk1 (shut_bool Trym.underlying4 _), (trodAll_cons_mk (Below.trod laidOut (by kernel_rfl) (of_decide_eq_true (by kernel_rfl)) k0 bel lt0) (trodAll_cons_mk (Below.trod laidOut (by kernel_rfl) (of_decide_eq_true (by kernel_rfl)) k1 bel lt1) (trodAll_cons_mk (Below.trod laidOut (by kernel_rfl) (of_decide_eq_true (by kernel_rfl)) k2 bel lt2) trodAll_mk0))), rfl, bel.frame _, fun h => by cases h⟩

theorem over : Rows.fnNeedsExactlyTheOutsideDirectDependenciesRow.holds Trym.pinned (OpenSpec.ofChange Rows.fnNeedsExactlyTheOutsideDirectDependenciesSpec) :=
  OpenClaim.holds_of_wide 3 Trym.f3 rfl rfl rfl rfl rfl rfl rfl ⟨rfl, rfl, rfl, rfl, rfl⟩ rfl rfl rfl rfl rfl (by kernel_rfl) Trym.func3 (by kernel_rfl)
    (of_decide_eq_true (by kernel_rfl)) (by unfold Func.isWrapper; first | (rw [if_pos (by decide +kernel)]; kernel_rfl) | (rw [if_neg (by decide +kernel)]; exact ⟨rfl, rfl⟩))
    (fun os started H enc _ => lifted os started H enc)

end Go.Proofs.Qxb6600043aMods.L
namespace Go.Proofs.Qxb6600043aMods
/-- THE STATEMENT -/
theorem needs_proved : Rows.FnNeedsExactlyTheOutsideDirectDependenciesSaid := L.over
end Go.Proofs.Qxb6600043aMods
