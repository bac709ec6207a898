import Derived.Test.Qxb6001495aModsRows
import Derived.Test.Qxb6001495aModsQm
import Derived.ProofKit
import Derived.OpenShut
import Derived.ShutString
import Derived.ChangeOld
import Derived.SliceStrings
namespace Go.Proofs.Qxb6001495aMods.L
open Go.ChangeShapes Go.WideShapes Go.ChangeAt Go.RowKit
open Go.ChangeMaps (open_string shut_string)
set_option linter.unusedVariables false

theorem own : ownKnob Trym.prog.godebug = none := by kernel_rfl
theorem laidOut : laidOutB Trym.prog = true := by kernel_rfl

/-- What the reading of a slice gives the walk. -/
theorem row_of {α : Type} {val : α → Value} {d : α} {W : World} {a : Addr} {len cap : Nat} {xs : List α} (hl : len ≤ cap) (hz : xs.length = cap) (hcell : ∀ i, i < xs.length → W.cell? (a.add i) = some (val (xs.getD i d))) :
    Row val d W (some a) len (xs.take len) := by
  refine ⟨by simp; omega, ?_⟩
  by_cases h0 : len = 0
  · exact .inl h0
  obtain ⟨b, off, spot⟩ := a
  have hspot : spot = none := by simpa [Addr.add] using World.cell?_spot (hcell 0 (by omega))
  subst hspot
  refine .inr ⟨b, off, rfl, ?_, fun i hi => ?_⟩
  · have := World.block_lt_of_cell? W _ (hcell 0 (by omega))
    simpa [Addr.add] using this
  · have h := hcell i (by omega)
    rw [add_plain] at h
    rw [h]
    simp [List.getD, hi]

/-! ### THE ROW's STEP -/
set_option maxRecDepth 100000 in
theorem lifted (os : Os) (started : os.Started) (H : Type) (enc : TypeId × Value → H) :
    ReturnsInHanded {} Trym.checked os 3 .any (Rows.fnRangeLogAddSplicesRefsAtIndexSpec.pre6 enc Trym.prog Trym.f3 Rows.fnRangeLogAddSplicesRefsAtIndexRow.domain false) (Rows.fnRangeLogAddSplicesRefsAtIndexSpec.post enc Trym.prog Trym.f3 false true false false) := by
  refine returnsInHanded_of_change (C := Trym.checked) own started (by kernel_rfl) Trym.func3
    (ChangeSpec.witness6 (enc := enc) (C := Trym.checked) false ⟨#[], #[.int .u64 0, .slice none 0 0, .slice none 0 0, .int .u64 0, .slice none 0 0, .slice none 0 0], []⟩ 8 (by kernel_rfl) (by kernel_rfl) (by kernel_rfl) (by kernel_rfl)) ?_
  intro W base args ds gs before hval0 hW hcnd _
  have hval : ∀ (j : Nat) t v, Trym.f3.params[j]? = some t → args[j]? = some v → Value.okWide Trym.prog W .any base t v := hval0
  have hW' := hW
  obtain ⟨p, q, hA0, hV, rfl, hfz, hnd⟩ := hW
  have hA : DataW.TrodAll enc Trym.prog W 0 (fun _ => true) true Trym.f3.params.toList args.toList ds p := hA0
  rw [Trym.params3] at hA hval
  obtain ⟨v0, vs0, d0, ds0, p0, q0, hargs, rfl, rfl, h0, r0⟩ := trodAll_cons hA
  obtain ⟨v1, vs1, d1, ds1, p1, q1, rfl, rfl, rfl, h1, r1⟩ := trodAll_cons r0
  obtain ⟨v2, vs2, d2, ds2, p2, q2, rfl, rfl, rfl, h2, r2⟩ := trodAll_cons r1
  obtain ⟨v3, vs3, d3, ds3, p3, q3, rfl, rfl, rfl, h3, r3⟩ := trodAll_cons r2
  obtain ⟨v4, vs4, d4, ds4, p4, q4, rfl, rfl, rfl, h4, r4⟩ := trodAll_cons r3
  obtain ⟨v5, vs5, d5, ds5, p5, q5, rfl, rfl, rfl, h5, r5⟩ := trodAll_cons r4
  obtain ⟨rfl, rfl, rfl⟩ := trodAll_nil r5
  obtain rfl : args = #[v0, v1, v2, v3, v4, v5] := by cases args; simp_all
  obtain ⟨rfl, rfl⟩ := trodVars_none hV
  have k0 := h0
  have lt0 : ∀ x ∈ p0, x.block < W.heap.size := by obtain ⟨m, hm⟩ := k0; exact DataW.trod_lt m _ _ _ hm
  obtain ⟨a0, rfl, -, -, w0⟩ := open_int Trym.underlying22 (hval 0 22 v0 rfl rfl) h0
  obtain ⟨a1, len1, cap1, rfl⟩ := okWide_slice Trym.underlying23 (hval 1 23 v1 rfl rfl)
  have k1 := h1
  have lt1 : ∀ x ∈ p1, x.block < W.heap.size := by obtain ⟨m, hm⟩ := k1; exact DataW.trod_lt m _ _ _ hm
  obtain ⟨z1, w1, lc1, cm1, wf1⟩ : ∃ xs, Row (Value.int .u64) 0 W a1 len1 xs ∧ len1 ≤ cap1 ∧ cap1 ≤ maxLen ∧ (∀ z ∈ xs, (Lit.int .u64 z).wf = true) := by
    obtain ⟨fuel, hf⟩ := h1
    rcases open_ints Trym.underlying23 Trym.underlying22 (by kernel_rfl) hf with ⟨hcs, _⟩ | ⟨x, l, c, zs, hcs, _, hl, hm, hz, _, hcell, hwz⟩
    · simp [Value.cells] at hcs
      obtain ⟨rfl, rfl, rfl⟩ := hcs
      exact ⟨[], ⟨rfl, .inl rfl⟩, Nat.le_refl _, Nat.zero_le _, by simp⟩
    · simp [Value.cells] at hcs
      obtain ⟨rfl, rfl, rfl⟩ := hcs
      exact ⟨zs.take len1, row_of hl (by simpa using hz) hcell, hl, hm, fun s hs => hwz s (List.mem_of_mem_take hs)⟩
  obtain ⟨a2, len2, cap2, rfl⟩ := okWide_slice Trym.underlying24 (hval 2 24 v2 rfl rfl)
  have k2 := h2
  have lt2 : ∀ x ∈ p2, x.block < W.heap.size := by obtain ⟨m, hm⟩ := k2; exact DataW.trod_lt m _ _ _ hm
  obtain ⟨z2, w2, lc2, cm2, wf2⟩ : ∃ xs, Row (Value.int .u32) 0 W a2 len2 xs ∧ len2 ≤ cap2 ∧ cap2 ≤ maxLen ∧ (∀ z ∈ xs, (Lit.int .u32 z).wf = true) := by
    obtain ⟨fuel, hf⟩ := h2
    rcases open_ints Trym.underlying24 Trym.underlying35 (by kernel_rfl) hf with ⟨hcs, _⟩ | ⟨x, l, c, zs, hcs, _, hl, hm, hz, _, hcell, hwz⟩
    · simp [Value.cells] at hcs
      obtain ⟨rfl, rfl, rfl⟩ := hcs
      exact ⟨[], ⟨rfl, .inl rfl⟩, Nat.le_refl _, Nat.zero_le _, by simp⟩
    · simp [Value.cells] at hcs
      obtain ⟨rfl, rfl, rfl⟩ := hcs
      exact ⟨zs.take len2, row_of hl (by simpa using hz) hcell, hl, hm, fun s hs => hwz s (List.mem_of_mem_take hs)⟩
  have k3 := h3
  have lt3 : ∀ x ∈ p3, x.block < W.heap.size := by obtain ⟨m, hm⟩ := k3; exact DataW.trod_lt m _ _ _ hm
  obtain ⟨a3, rfl, -, -, w3⟩ := open_int Trym.underlying22 (hval 3 22 v3 rfl rfl) h3
  obtain ⟨a4, len4, cap4, rfl⟩ := okWide_slice Trym.underlying23 (hval 4 23 v4 rfl rfl)
  have k4 := h4
  have lt4 : ∀ x ∈ p4, x.block < W.heap.size := by obtain ⟨m, hm⟩ := k4; exact DataW.trod_lt m _ _ _ hm
  obtain ⟨z4, w4, lc4, cm4, wf4⟩ : ∃ xs, Row (Value.int .u64) 0 W a4 len4 xs ∧ len4 ≤ cap4 ∧ cap4 ≤ maxLen ∧ (∀ z ∈ xs, (Lit.int .u64 z).wf = true) := by
    obtain ⟨fuel, hf⟩ := h4
    rcases open_ints Trym.underlying23 Trym.underlying22 (by kernel_rfl) hf with ⟨hcs, _⟩ | ⟨x, l, c, zs, hcs, _, hl, hm, hz, _, hcell, hwz⟩
    · simp [Value.cells] at hcs
      obtain ⟨rfl, rfl, rfl⟩ := hcs
      exact ⟨[], ⟨rfl, .inl rfl⟩, Nat.le_refl _, Nat.zero_le _, by simp⟩
    · simp [Value.cells] at hcs
      obtain ⟨rfl, rfl, rfl⟩ := hcs
      exact ⟨zs.take len4, row_of hl (by simpa using hz) hcell, hl, hm, fun s hs => hwz s (List.mem_of_mem_take hs)⟩
  obtain ⟨a5, len5, cap5, rfl⟩ := okWide_slice Trym.underlying24 (hval 5 24 v5 rfl rfl)
  have k5 := h5
  have lt5 : ∀ x ∈ p5, x.block < W.heap.size := by obtain ⟨m, hm⟩ := k5; exact DataW.trod_lt m _ _ _ hm
  obtain ⟨z5, w5, lc5, cm5, wf5⟩ : ∃ xs, Row (Value.int .u32) 0 W a5 len5 xs ∧ len5 ≤ cap5 ∧ cap5 ≤ maxLen ∧ (∀ z ∈ xs, (Lit.int .u32 z).wf = true) := by
    obtain ⟨fuel, hf⟩ := h5
    rcases open_ints Trym.underlying24 Trym.underlying35 (by kernel_rfl) hf with ⟨hcs, _⟩ | ⟨x, l, c, zs, hcs, _, hl, hm, hz, _, hcell, hwz⟩
    · simp [Value.cells] at hcs
      obtain ⟨rfl, rfl, rfl⟩ := hcs
      exact ⟨[], ⟨rfl, .inl rfl⟩, Nat.le_refl _, Nat.zero_le _, by simp⟩
    · simp [Value.cells] at hcs
      obtain ⟨rfl, rfl, rfl⟩ := hcs
      exact ⟨zs.take len5, row_of hl (by simpa using hz) hcell, hl, hm, fun s hs => hwz s (List.mem_of_mem_take hs)⟩
  clear hA0 hval0
  refine (splices_any a0 a1 len1 cap1 z1 a2 len2 cap2 z2 a3 a4 len4 cap4 z4 a5 len5 cap5 z5 W w1 w2 w4 w5 (Nat.le_trans lc1 cm1) (Nat.le_trans lc2 cm2) (Nat.le_trans lc4 cm4) (Nat.le_trans lc5 cm5) (bounds_u64 w0) (bounds_u64 w3) (fun z hz => bounds_u32 (wf2 z hz)) (fun z hz => bounds_u32 (wf5 z hz))).mono fun e W' ⟨he, bel⟩ => ?_
  subst he
  exact ⟨_, rfl, _, _, _, [], _, [], hW', trodAll_mk1 (shut_bool Trym.underlying4 _), (trodAll_cons_mk (Below.trod laidOut (by kernel_rfl) (of_decide_eq_true (by kernel_rfl)) k0 bel lt0) (trodAll_cons_mk (Below.trod laidOut (by kernel_rfl) (of_decide_eq_true (by kernel_rfl)) k1 bel lt1) (trodAll_cons_mk (Below.trod laidOut (by kernel_rfl) (of_decide_eq_true (by kernel_rfl)) k2 bel lt2) (trodAll_cons_mk (Below.trod laidOut (by kernel_rfl) (of_decide_eq_true (by kernel_rfl)) k3 bel lt3) (trodAll_cons_mk (Below.trod laidOut (by kernel_rfl) (of_decide_eq_true (by kernel_rfl)) k4 bel lt4) (trodAll_cons_mk (Below.trod laidOut (by kernel_rfl) (of_decide_eq_true (by kernel_rfl)) k5 bel lt5) trodAll_mk0)))))), rfl, bel.frame _, fun h => by cases h⟩

theorem over : Rows.fnRangeLogAddSplicesRefsAtIndexRow.holds Trym.pinned (OpenSpec.ofChange Rows.fnRangeLogAddSplicesRefsAtIndexSpec) :=
  OpenClaim.holds_of_wide 3 Trym.f3 rfl rfl rfl rfl rfl rfl rfl ⟨rfl, rfl, rfl, rfl, rfl⟩ rfl rfl rfl rfl rfl (by kernel_rfl) Trym.func3 (by kernel_rfl)
    (of_decide_eq_true (by kernel_rfl)) (by unfold Func.isWrapper; first | (rw [if_pos (by decide +kernel)]; kernel_rfl) | (rw [if_neg (by decide +kernel)]; exact ⟨rfl, rfl⟩))
    (fun os started H enc _ => lifted os started H enc)

end Go.Proofs.Qxb6001495aMods.L
namespace Go.Proofs.Qxb6001495aMods
/-- THE STATEMENT -/
theorem addSplices_proved : Rows.FnRangeLogAddSplicesRefsAtIndexSaid := L.over
end Go.Proofs.Qxb6001495aMods
