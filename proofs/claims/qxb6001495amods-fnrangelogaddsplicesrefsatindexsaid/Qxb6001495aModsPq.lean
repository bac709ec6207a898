import Derived.Test.Qxb6001495aModsRf
namespace Go.Proofs.Qxb6001495aMods.L
open Go.RowKit

/-! The plain law of one splice. -/

theorem pairs_get (ts ns : List Int) (k i : Nat) : (pairs ts ns k)[i]? = if i < k then some (ts.getD i 0, ns.getD i 0) else none := by
  unfold pairs
  by_cases h : i < k
  · rw [if_pos h, List.getElem?_map, List.getElem?_range h]
    rfl
  · rw [if_neg h, List.getElem?_map, List.getElem?_eq_none (by simp; omega)]
    rfl

theorem pairs_take (ts ns : List Int) (k i : Nat) (h : i ≤ k) : (pairs ts ns k).take i = pairs ts ns i := by
  apply List.ext_getElem?
  intro j
  rw [List.getElem?_take, pairs_get, pairs_get]
  by_cases h1 : j < i
  · rw [if_pos h1, if_pos h1, if_pos (by omega)]
  · rw [if_neg h1, if_neg h1]

theorem pairs_lens {ts ns : List Int} {k : Nat} (hp : ∀ z ∈ ns, 0 ≤ z ∧ z ≤ 4294967295) : Lens (pairs ts ns k) := by
  intro p hp'
  obtain ⟨i, _, rfl⟩ := List.mem_map.1 hp'
  show 0 ≤ ns.getD i 0 ∧ ns.getD i 0 ≤ 4294967295
  by_cases h : i < ns.length
  · rw [List.getD, List.getElem?_eq_getElem h]
    exact hp _ (List.getElem_mem _)
  · rw [List.getD, List.getElem?_eq_none (by omega)]
    exact ⟨Int.le_refl _, by decide⟩

theorem sumN_pairs_succ (ts ns : List Int) (k : Nat) : sumN (pairs ts ns (k + 1)) = sumN (pairs ts ns k) + ns.getD k 0 := by
  rw [pairs_succ, sumN_append]
  simp [sumN]

/-- how many old entries stay -/
def keptOf (base index : Int) (k : Nat) : Nat := if base < index ∧ 0 < k then (index - base).toNat else 0

theorem kept_le {base index : Int} {k : Nat} (h : 0 < k → index ≤ base + k) : keptOf base index k ≤ k := by
  unfold keptOf
  split
  · rename_i hc
    have := h hc.2
    omega
  · omega

theorem spliced_pairs {base index : Int} {ts ns nts nns : List Int} {k m : Nat} (h : 0 < k → index ≤ base + k) :
    spliced base (pairs ts ns k) index (pairs nts nns m) = (if base < index ∧ 0 < k then base else index, pairs ts ns (keptOf base index k) ++ pairs nts nns m) := by
  unfold spliced keptOf
  rw [pairs_length]
  by_cases hc : 0 < k ∧ base < index
  · have := h hc.1
    rw [if_pos hc, if_pos ⟨hc.2, hc.1⟩, if_pos ⟨hc.2, hc.1⟩, pairs_take _ _ _ _ (by omega)]
  · have hc' : ¬ (base < index ∧ 0 < k) := fun h => hc ⟨h.2, h.1⟩
    rw [if_neg hc, if_neg hc', if_neg hc']
    simp [pairs]

theorem splice_len {base index : Int} {ts ns nts nns : List Int} {k m : Nat} : (pairs ts ns (keptOf base index k) ++ pairs nts nns m).length = keptOf base index k + m := by
  rw [List.length_append, pairs_length, pairs_length]

theorem splice_fits {base index : Int} {ts ns nts nns : List Int} {k m : Nat} (h : 0 < k → index ≤ base + k) (idx : Int) :
    termOf (if base < index ∧ 0 < k then base else index) (pairs ts ns (keptOf base index k) ++ pairs nts nns m) idx = expectOf idx base ts k index nts m := by
  unfold expectOf keptOf
  by_cases hc : base < index ∧ 0 < k
  · have hb := h hc.2
    rw [if_pos hc, if_pos hc]
    unfold termOf
    by_cases h1 : base ≤ idx
    · rw [if_pos h1]
      by_cases h2 : index ≤ idx
      · rw [List.getElem?_append_right (by rw [pairs_length]; omega), pairs_length, pairs_get]
        have e : (idx - base).toNat - (index - base).toNat = (idx - index).toNat := by omega
        rw [e]
        by_cases h3 : idx - index < m
        · rw [if_pos (by omega), if_pos ⟨h2, h3⟩]
        · rw [if_neg (by omega), if_neg (fun h => h3 h.2), if_neg (by omega)]
      · rw [List.getElem?_append_left (by rw [pairs_length]; omega), pairs_get, if_pos (by omega), if_neg (fun h => h2 h.1), if_pos ⟨by omega, h1, by omega⟩]
    · rw [if_neg h1, if_neg (by omega), if_neg (fun h => h1 h.2.1)]
  · rw [if_neg hc, if_neg hc]
    have e0 : pairs ts ns 0 = [] := rfl
    rw [e0, List.nil_append]
    unfold termOf
    by_cases h2 : index ≤ idx
    · rw [if_pos h2, pairs_get]
      by_cases h3 : idx - index < m
      · rw [if_pos (by omega), if_pos ⟨h2, h3⟩]
      · rw [if_neg (by omega), if_neg (fun h => h3 h.2), if_neg (by omega)]
    · rw [if_neg h2, if_neg (fun h => h2 h.1), if_neg (by omega)]

end Go.Proofs.Qxb6001495aMods.L
