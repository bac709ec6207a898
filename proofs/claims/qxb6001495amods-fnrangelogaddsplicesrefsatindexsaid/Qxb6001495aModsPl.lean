import Derived.Test.Qxb6001495aModsAd
namespace Go.Proofs.Qxb6001495aMods.L
open Go.RowKit

/-! The plain law of 'add': no walk. -/

/-- x may be added at -/
def Acc (base : Int) (es : List (Int × Int)) (x : Int) : Prop := 0 < es.length → x ≤ base + es.length

theorem spliced_len {base : Int} {es : List (Int × Int)} {x : Int} (rs : List (Int × Int)) : (spliced base es x rs).2.length ≤ es.length + rs.length := by
  unfold spliced
  split
  · simp; omega
  · simp

theorem spliced_lens {base : Int} {es : List (Int × Int)} {x : Int} {rs : List (Int × Int)} (h : Lens es) (k : Lens rs) : Lens (spliced base es x rs).2 := by
  unfold spliced
  split
  · exact (h.take _).append k
  · exact k

theorem spliced_base {base : Int} {es : List (Int × Int)} {x : Int} {rs : List (Int × Int)} {T : Int} (h0 : 0 ≤ base) (hT : base ≤ T) (hx0 : 0 ≤ x) (hx : x ≤ T) : 0 ≤ (spliced base es x rs).1 ∧ (spliced base es x rs).1 ≤ T := by
  unfold spliced
  split
  · exact ⟨h0, hT⟩
  · exact ⟨hx0, hx⟩

/-- the new refs are found at their indices -/
theorem term_new {base : Int} {es : List (Int × Int)} {x : Int} {rs : List (Int × Int)} (hacc : Acc base es x) (i : Nat) (hi : i < rs.length) : termOf (spliced base es x rs).1 (spliced base es x rs).2 (x + i) = (rs[i].1, true) := by
  unfold spliced
  split
  · rename_i h
    have := hacc h.1
    have hk : (x + i - base).toNat = (x - base).toNat + i := by omega
    rw [termOf, if_pos (by omega), hk, List.getElem?_append_right (by simp; omega)]
    have e : (x - base).toNat + i - (es.take (x - base).toNat).length = i := by simp; omega
    rw [e, List.getElem?_eq_getElem hi]
  · rw [termOf, if_pos (by show x ≤ x + (i : Int); omega)]
    have e : (x + i - x).toNat = i := by omega
    simp only [e, List.getElem?_eq_getElem hi]

/-- and nothing past them -/
theorem term_past {base : Int} {es : List (Int × Int)} {x : Int} {rs : List (Int × Int)} (hacc : Acc base es x) : termOf (spliced base es x rs).1 (spliced base es x rs).2 (x + rs.length) = (0, false) := by
  unfold spliced
  split
  · rename_i h
    have := hacc h.1
    rw [termOf, if_pos (by show base ≤ x + (rs.length : Int); omega), List.getElem?_eq_none (by simp; omega)]
  · rw [termOf, if_pos (by show x ≤ x + (rs.length : Int); omega), List.getElem?_eq_none (by show rs.length ≤ _; omega)]

/-- the entry just below is untouched -/
theorem term_below {base : Int} {es : List (Int × Int)} {x : Int} {rs : List (Int × Int)} (hacc : Acc base es x) : termOf (spliced base es x rs).1 (spliced base es x rs).2 (x - 1) = termOf base es (x - 1) := by
  unfold spliced
  split
  · rename_i h
    have := hacc h.1
    rw [termOf, termOf, if_pos (by show base ≤ x - 1; omega), if_pos (by omega)]
    rw [List.getElem?_append_left (by simp; omega), List.getElem?_take, if_pos (by omega)]
  · rename_i h
    rw [termOf, if_neg (by show ¬ x ≤ x - 1; omega), termOf]
    by_cases h1 : base ≤ x - 1
    · rw [if_pos h1, List.getElem?_eq_none (by omega)]
    · rw [if_neg h1]

/-- a term of the log is a uint64 -/
def Terms (es : List (Int × Int)) : Prop := ∀ p ∈ es, 0 ≤ p.1 ∧ p.1 ≤ 18446744073709551615

/-- the refs of one add of the script -/
def newRefs (j : Nat) (pool : List Int) (c : Nat) (k : Nat) : List (Int × Int) := (List.range k).map (fun i => ((j : Int), pool.getD (c + i) 0))

theorem newRefs_length (j : Nat) (pool : List Int) (c k : Nat) : (newRefs j pool c k).length = k := by simp [newRefs]
theorem newRefs_succ (j : Nat) (pool : List Int) (c k : Nat) : newRefs j pool c (k + 1) = newRefs j pool c k ++ [((j : Int), pool.getD (c + k) 0)] := by simp [newRefs, List.range_succ]
theorem newRefs_at (j : Nat) (pool : List Int) (c k i : Nat) (h : i < (newRefs j pool c k).length) : (newRefs j pool c k)[i].1 = (j : Int) := by simp [newRefs]
theorem newRefs_lens {j : Nat} {pool : List Int} {c k : Nat} (hp : ∀ z ∈ pool, 0 ≤ z ∧ z ≤ 4294967295) : Lens (newRefs j pool c k) := by
  intro p hp'
  obtain ⟨i, _, rfl⟩ := List.mem_map.1 hp'
  show 0 ≤ pool.getD (c + i) 0 ∧ pool.getD (c + i) 0 ≤ 4294967295
  by_cases h : c + i < pool.length
  · rw [List.getD, List.getElem?_eq_getElem h]
    exact hp _ (List.getElem_mem _)
  · rw [List.getD, List.getElem?_eq_none (by omega)]
    exact ⟨Int.le_refl _, by decide⟩

theorem sumN_take_succ {es : List (Int × Int)} (h : Lens es) (hl : es.length ≤ 262144) (i : Nat) (hi : i < es.length) : 0 ≤ es[i].2 ∧ es[i].2 ≤ 4294967295 ∧ 0 ≤ sumN (es.take i) ∧ sumN (es.take i) ≤ 1125899906842624 ∧ sumN (es.take (i + 1)) = sumN (es.take i) + es[i].2 := by
  have := sum_add h i hi
  exact ⟨this.1, this.2.1, (this.2.2.1 hl).1, (this.2.2.1 hl).2, this.2.2.2⟩

end Go.Proofs.Qxb6001495aMods.L
