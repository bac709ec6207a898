import Derived.Test.Qxb6600043aModsFn
namespace Go.Proofs.Qxb6600043aMods.L
open Go.RowKit

theorem getD_le {ss : List ByteArray} {m : Nat} (h : ∀ s ∈ ss, s.size ≤ m) (k : Nat) : (ss.getD k ByteArray.empty).size ≤ m := by
  by_cases hk : k < ss.length
  · rw [List.getD, List.getElem?_eq_getElem hk]
    exact h _ (List.getElem_mem hk)
  · rw [List.getD, List.getElem?_eq_none (by omega)]
    exact Nat.zero_le _

def LeftPost (w : World) (e : Ending) (w' : World) : Prop := ∃ r : Int, e = .returned (.int .i64 r) ∧ w' = w ∧ -1 ≤ r ∧ r ≤ 1048576

set_option maxHeartbeats 800000 in
theorem spend_any (left : Int) (a : Option Addr) (len cap : Nat) (ss : List ByteArray) (w : World) (hr : Strs w a len ss) (hlen : len ≤ maxLen) (hs : ∀ s ∈ ss, s.size ≤ maxLen) (h0 : -1 ≤ left) (h1 : left ≤ 1048576) :
    Calls Trym.prog 15 #[.int .i64 left, .slice a len cap] w (LeftPost w) := by
  unfold maxLen at hlen hs
  have hl := hr.1
  subst hl
  have HS : Hid (∀ s ∈ ss, s.size ≤ 2 ^ 63 - 1) := hs
  clear hs
  by_cases hn : left < 0
  · go_enter Trym.func15, Trym.ntmps15
    go_wp2
    go_ret
    exact ⟨_, rfl, rfl, by omega, by omega⟩
  by_cases hq : left / 16 < (ss.length : Int)
  · go_enter Trym.func15, Trym.ntmps15
    go_wp2
    go_ret
    exact ⟨_, rfl, rfl, by omega, by omega⟩
  · go_enter Trym.func15, Trym.ntmps15
    go_wp2
    go_loop [0, 5] (fun s0 i => ∃ (k : Nat) (m : Int), k ≤ ss.length ∧ i = .int .i64 k ∧ s0 = .int .i64 m ∧ 0 ≤ m ∧ m ≤ 1048576) (fun _ i => ss.length - (intOf i).toNat)
    case atStart => exact ⟨0, left - 16 * ss.length, Nat.zero_le _, rfl, rfl, by omega, by omega⟩
    case round =>
      obtain ⟨k, m, hk, rfl, rfl, hm0, hm1⟩ := hrel
      by_cases hlt : k < ss.length
      · obtain ⟨b, off, rfl, hb, hc⟩ := hr.at_pos (by omega)
        have hcx := hc.out k hlt
        have hsz := getD_le HS.out k
        obtain ⟨s, hse⟩ : ∃ s, s = ss.getD k ByteArray.empty := ⟨_, rfl⟩
        rw [← hse] at hcx hsz
        clear hse hr
        go_wp2
        · go_ret
          exact ⟨_, rfl, rfl, by omega, by omega⟩
        · go_round
          case rel => exact ⟨k + 1, m - s.size, by omega, by go_num, by go_num, by omega, by omega⟩
          case measure => simp [intOf]; omega
      · go_wp2
        go_ret
        exact ⟨_, rfl, rfl, by omega, by omega⟩

/-- the inner slices are of lengths that a slice can have, and so are their strings -/
def Fits (hs : List Hdr) (dss : List (List ByteArray)) : Prop := ∀ i, (hs.getD i d0).2.1 ≤ maxLen ∧ ∀ s ∈ dss.getD i [], s.size ≤ maxLen

set_option maxHeartbeats 800000 in
theorem spendNested_any (left : Int) (a : Option Addr) (len cap : Nat) (hs : List Hdr) (dss : List (List ByteArray)) (w : World) (hr : Row hv d0 w a len hs) (hrs : Rows w hs dss) (hf : Fits hs dss) (hlen : len ≤ maxLen) (h0 : -1 ≤ left) (h1 : left ≤ 1048576) :
    Calls Trym.prog 16 #[.int .i64 left, .slice a len cap] w (LeftPost w) := by
  unfold maxLen at hlen
  have hl := hr.1
  subst hl
  have HF : Hid (Fits hs dss) := hf
  have HRS : Hid (Rows w hs dss) := hrs
  clear hf hrs
  by_cases hn : left < 0
  · go_enter Trym.func16, Trym.ntmps16
    go_wp2
    go_ret
    exact ⟨_, rfl, rfl, by omega, by omega⟩
  by_cases hq : left / 24 < (hs.length : Int)
  · go_enter Trym.func16, Trym.ntmps16
    go_wp2
    go_ret
    exact ⟨_, rfl, rfl, by omega, by omega⟩
  · go_enter Trym.func16, Trym.ntmps16
    go_wp2
    go_loop [0, 5] (fun s0 i => ∃ (k : Nat) (m : Int), k ≤ hs.length ∧ i = .int .i64 k ∧ s0 = .int .i64 m ∧ 0 ≤ m ∧ m ≤ 1048576) (fun _ i => hs.length - (intOf i).toNat)
    case atStart => exact ⟨0, left - 24 * hs.length, Nat.zero_le _, rfl, rfl, by omega, by omega⟩
    case round =>
      obtain ⟨k, m, hk, rfl, rfl, hm0, hm1⟩ := hrel
      by_cases hlt : k < hs.length
      · obtain ⟨b, off, rfl, hb, hc⟩ := hr.at_pos (by omega)
        have hcx := hc.out k hlt
        have hri := HRS.out.2 k
        obtain ⟨hf1, hf2⟩ := HF.out k
        obtain ⟨⟨a1, l1, c1⟩, hse⟩ : ∃ s, s = hs.getD k d0 := ⟨_, rfl⟩
        rw [← hse] at hcx hri hf1
        simp only [hv] at hcx hri hf1
        have HC : Hid (Calls Trym.prog 15 #[.int .i64 m, .slice a1 l1 c1] w (LeftPost w)) := spend_any m a1 l1 c1 _ w hri hf1 hf2 (by omega) hm1
        clear hse hr hri hf1 hf2
        go_wp2_with fail
        refine HC.out.mono ?_
        rintro e w' ⟨r, rfl, rfl, r0, r1⟩
        clear HC
        by_cases hr0 : r < 0
        · go_wp2
          go_ret
          exact ⟨_, rfl, rfl, by omega, by omega⟩
        · go_wp2
          go_round
          case rel => exact ⟨k + 1, r, by omega, by go_num, by go_num, by omega, by omega⟩
          case measure => simp [intOf]; omega
      · go_wp2
        go_ret
        exact ⟨_, rfl, rfl, by omega, by omega⟩

def SomeBool (w : World) (e : Ending) (w' : World) : Prop := ∃ b : Bool, e = .returned (.bool b) ∧ w' = w

set_option maxHeartbeats 800000 in
theorem tooBig_any (a : Option Addr) (len cap : Nat) (ss : List ByteArray) (a1 : Option Addr) (len1 cap1 : Nat) (hs : List Hdr) (dss : List (List ByteArray)) (a2 : Option Addr) (len2 cap2 : Nat) (qs : List ByteArray) (w : World)
    (hr : Strs w a len ss) (hr1 : Row hv d0 w a1 len1 hs) (hrs : Rows w hs dss) (hf : Fits hs dss) (hr2 : Strs w a2 len2 qs) (hl : len ≤ maxLen) (hl1 : len1 ≤ maxLen) (hl2 : len2 ≤ maxLen) (hs0 : ∀ s ∈ ss, s.size ≤ maxLen) (hs2 : ∀ s ∈ qs, s.size ≤ maxLen) :
    Calls Trym.prog 6 #[.slice a len cap, .slice a1 len1 cap1, .slice a2 len2 cap2, .slice none 0 0] w (SomeBool w) := by
  have H1 : Hid (∀ l : Int, -1 ≤ l → l ≤ 1048576 → Calls Trym.prog 15 #[.int .i64 l, .slice a len cap] w (LeftPost w)) := fun l h0 h1 => spend_any l a len cap ss w hr hl hs0 h0 h1
  have H2 : Hid (∀ l : Int, -1 ≤ l → l ≤ 1048576 → Calls Trym.prog 16 #[.int .i64 l, .slice a1 len1 cap1] w (LeftPost w)) := fun l h0 h1 => spendNested_any l a1 len1 cap1 hs dss w hr1 hrs hf hl1 h0 h1
  have H3 : Hid (∀ l : Int, -1 ≤ l → l ≤ 1048576 → Calls Trym.prog 15 #[.int .i64 l, .slice a2 len2 cap2] w (LeftPost w)) := fun l h0 h1 => spend_any l a2 len2 cap2 qs w hr2 hl2 hs2 h0 h1
  have H4 : Hid (∀ l : Int, -1 ≤ l → l ≤ 1048576 → Calls Trym.prog 15 #[.int .i64 l, .slice none 0 0] w (LeftPost w)) := fun l h0 h1 => spend_any l none 0 0 [] w (Row.empty _ _) (Nat.zero_le _) (fun s hs => by cases hs) h0 h1
  clear hr hr1 hrs hf hr2 hl hl1 hl2 hs0 hs2
  go_enter Trym.func6, Trym.ntmps6
  go_wp2_with fail
  refine (H1.out 1048576 (by omega) (by omega)).mono ?_
  rintro e w1 ⟨l1, rfl, rfl, p1, q1⟩
  go_wp2_with fail
  refine (H2.out l1 p1 q1).mono ?_
  rintro e w2 ⟨l2, rfl, rfl, p2, q2⟩
  go_wp2_with fail
  refine (H3.out l2 p2 q2).mono ?_
  rintro e w3 ⟨l3, rfl, rfl, p3, q3⟩
  go_wp2_with fail
  refine (H4.out l3 p3 q3).mono ?_
  rintro e w4 ⟨l4, rfl, rfl, p4, q4⟩
  go_wp2
  go_ret
  exact ⟨_, rfl, rfl⟩

/-- What the bound on the total length gives. -/
structure Small (ss : List ByteArray) (dss : List (List ByteArray)) (qs : List ByteArray) : Prop where
  names : ss.length ≤ 1048576
  deps : dss.length ≤ 1048576
  inner : ∀ i, (dss.getD i []).length ≤ 1048576
  query : qs.length ≤ 1048576

def BytesPost (ss : List ByteArray) (dss : List (List ByteArray)) (qs : List ByteArray) (w : World) (e : Ending) (w' : World) : Prop :=
  ∃ b : Bool, e = .returned (.bool b) ∧ w' = w ∧ (b = true → Small ss dss qs)

def InnerUp (dss : List (List ByteArray)) (k : Nat) : Prop := ∀ i, i < k → (dss.getD i []).length ≤ 1048576
theorem InnerUp.step {dss : List (List ByteArray)} {k : Nat} (h : InnerUp dss k) {l : Nat} (hl : (dss.getD k []).length = l) (h1 : l ≤ 1048576) : InnerUp dss (k + 1) := by
  intro i hi
  by_cases e : i = k
  · subst e; omega
  · exact h i (by omega)
theorem InnerUp.all {dss : List (List ByteArray)} {k : Nat} (h : InnerUp dss k) (hk : dss.length ≤ k) (i : Nat) : (dss.getD i []).length ≤ 1048576 := by
  by_cases hi : i < k
  · exact h i hi
  · rw [List.getD, List.getElem?_eq_none (by omega)]
    exact Nat.zero_le _

set_option maxHeartbeats 1600000 in
set_option maxRecDepth 100000 in
theorem bytes_any (a : Option Addr) (len cap : Nat) (ss : List ByteArray) (a1 : Option Addr) (len1 cap1 : Nat) (hs : List Hdr) (dss : List (List ByteArray)) (a2 : Option Addr) (len2 cap2 : Nat) (qs : List ByteArray) (w : World)
    (hr : Strs w a len ss) (hr1 : Row hv d0 w a1 len1 hs) (hrs : Rows w hs dss) (hf : Fits hs dss) (hr2 : Strs w a2 len2 qs) (hl : len ≤ maxLen) (hl1 : len1 ≤ maxLen) (hl2 : len2 ≤ maxLen) (hs0 : ∀ s ∈ ss, s.size ≤ maxLen) (hs2 : ∀ s ∈ qs, s.size ≤ maxLen) :
    Calls Trym.prog 5 #[.slice a len cap, .slice a1 len1 cap1, .slice a2 len2 cap2] w (BytesPost ss dss qs w) := by
  unfold maxLen at hl hl1 hl2 hs0 hs2
  have e0 := hr.1
  have e1 := hr1.1
  have e2 := hr2.1
  subst e0 e1 e2
  have HHD : Hid (hs.length = dss.length) := hrs.1
  have HRS : Hid (Rows w hs dss) := hrs
  have HF : Hid (Fits hs dss) := hf
  have HS0 : Hid (∀ s ∈ ss, s.size ≤ 2 ^ 63 - 1) := hs0
  have HS2 : Hid (∀ s ∈ qs, s.size ≤ 2 ^ 63 - 1) := hs2
  clear hrs hf hs0 hs2
  by_cases g0 : 1048576 < ss.length
  · go_enter Trym.func5, Trym.ntmps5
    go_wp2
    go_ret
    exact ⟨false, rfl, rfl, fun h => by cases h⟩
  go_enter Trym.func5, Trym.ntmps5
  go_wp2
  go_loop [7, 8] (fun s7 i => ∃ (k : Nat) (m : Int), k ≤ ss.length ∧ i = .int .i64 k ∧ s7 = .int .i64 m ∧ 0 ≤ m ∧ m ≤ 1048576) (fun _ i => ss.length - (intOf i).toNat)
  case atStart => exact ⟨0, ss.length, Nat.zero_le _, rfl, by go_num, by omega, by omega⟩
  case round =>
    obtain ⟨k, m, hk, rfl, rfl, hm0, hm1⟩ := hrel
    by_cases hlt : k < ss.length
    · obtain ⟨b, off, rfl, hb, hc⟩ := hr.at_pos (by omega)
      have hcx := hc.out k hlt
      have hsz := getD_le HS0.out k
      obtain ⟨s, hse⟩ : ∃ s, s = ss.getD k ByteArray.empty := ⟨_, rfl⟩
      rw [← hse] at hcx hsz
      clear hse hr
      go_wp2
      · go_ret
        exact ⟨false, rfl, rfl, fun h => by cases h⟩
      · go_ret
        exact ⟨false, rfl, rfl, fun h => by cases h⟩
      · go_round
        case rel => exact ⟨k + 1, m + s.size, by omega, by go_num, by go_num, by omega, by omega⟩
        case measure => simp [intOf]; omega
    clear hr
    by_cases g1 : 1048576 < hs.length
    · go_wp2
      go_ret
      exact ⟨false, rfl, rfl, fun h => by cases h⟩
    by_cases g2 : 1048576 < m + hs.length
    · go_wp2
      go_ret
      exact ⟨false, rfl, rfl, fun h => by cases h⟩
    go_wp2
    go_loop [7, 9, 10] (fun s7 i _ => ∃ (k : Nat) (m : Int), k ≤ hs.length ∧ i = .int .i64 k ∧ s7 = .int .i64 m ∧ 0 ≤ m ∧ m ≤ 1048576 ∧ InnerUp dss k) (fun _ i _ => hs.length - (intOf i).toNat)
    case atStart => exact ⟨0, m + hs.length, Nat.zero_le _, rfl, by go_num, by omega, by omega, fun i hi => by omega⟩
    case round =>
      clear hm0 hm1 g2
      obtain ⟨k, m, hk, rfl, rfl, hm0, hm1, hiu⟩ := hrel
      have HIU : Hid (InnerUp dss k) := hiu
      clear hiu
      by_cases hlt1 : k < hs.length
      · obtain ⟨b, off, rfl, hb, hc⟩ := hr1.at_pos (by omega)
        have hcx := hc.out k hlt1
        have hri := HRS.out.2 k
        obtain ⟨hf1, hf2⟩ := HF.out k
        obtain ⟨⟨a1, l1, c1⟩, hse⟩ : ∃ s, s = hs.getD k d0 := ⟨_, rfl⟩
        rw [← hse] at hcx hri hf1
        simp only [hv] at hcx hri hf1
        unfold maxLen at hf1 hf2
        have HRI : Hid (Strs w a1 l1 (dss.getD k [])) := hri
        have HLE : Hid ((dss.getD k []).length = l1) := hri.1
        have HF2 : Hid (∀ s ∈ dss.getD k [], s.size ≤ 2 ^ 63 - 1) := hf2
        clear hse hri hf2 hr1
        by_cases g3 : 1048576 < l1
        · go_wp2
          go_ret
          exact ⟨false, rfl, rfl, fun h => by cases h⟩
        by_cases g4 : 1048576 < m + l1
        · go_wp2
          go_ret
          exact ⟨false, rfl, rfl, fun h => by cases h⟩
        go_wp2
        go_loop [7, 10] (fun s7 i => ∃ (j : Nat) (m : Int), j ≤ l1 ∧ i = .int .i64 j ∧ s7 = .int .i64 m ∧ 0 ≤ m ∧ m ≤ 1048576) (fun _ i => l1 - (intOf i).toNat)
        case atStart => exact ⟨0, m + l1, Nat.zero_le _, rfl, by go_num, by omega, by omega⟩
        case round =>
          clear hm0 hm1 g4
          obtain ⟨j, m, hj, rfl, rfl, hm0, hm1⟩ := hrel
          by_cases hlt2 : j < l1
          · obtain ⟨b', off', rfl, hb', hc'⟩ := HRI.out.at_pos (by omega)
            have hcy := hc'.out j hlt2
            have hsz := getD_le HF2.out j
            obtain ⟨s, hse⟩ : ∃ s, s = (dss.getD k []).getD j ByteArray.empty := ⟨_, rfl⟩
            rw [← hse] at hcy hsz
            clear hse
            go_wp2
            · go_ret
              exact ⟨false, rfl, rfl, fun h => by cases h⟩
            · go_ret
              exact ⟨false, rfl, rfl, fun h => by cases h⟩
            · go_round
              case rel => exact ⟨j + 1, m + s.size, by omega, by go_num, by go_num, by omega, by omega⟩
              case measure => simp [intOf]; omega
          · go_wp2
            go_round
            case rel => exact ⟨k + 1, m, by omega, by go_num, by go_num, by omega, by omega, HIU.out.step HLE.out (by omega)⟩
            case measure => simp [intOf]; omega
      clear hr1
      by_cases g5 : 1048576 < qs.length
      · go_wp2
        go_ret
        exact ⟨false, rfl, rfl, fun h => by cases h⟩
      by_cases g6 : 1048576 < m + qs.length
      · go_wp2
        go_ret
        exact ⟨false, rfl, rfl, fun h => by cases h⟩
      go_wp2
      go_loop [7, 11] (fun s7 i => ∃ (k : Nat) (m : Int), k ≤ qs.length ∧ i = .int .i64 k ∧ s7 = .int .i64 m ∧ 0 ≤ m ∧ m ≤ 1048576) (fun _ i => qs.length - (intOf i).toNat)
      case atStart => exact ⟨0, m + qs.length, Nat.zero_le _, rfl, by go_num, by omega, by omega⟩
      case round =>
        have HSM : Hid (Small ss dss qs) := ⟨by omega, by have := HHD.out; omega, HIU.out.all (by have := HHD.out; omega), by omega⟩
        clear hm0 hm1 g6
        obtain ⟨k, m, hk, rfl, rfl, hm0, hm1⟩ := hrel
        by_cases hlt3 : k < qs.length
        · obtain ⟨b, off, rfl, hb, hc⟩ := hr2.at_pos (by omega)
          have hcx := hc.out k hlt3
          have hsz := getD_le HS2.out k
          obtain ⟨s, hse⟩ : ∃ s, s = qs.getD k ByteArray.empty := ⟨_, rfl⟩
          rw [← hse] at hcx hsz
          clear hse hr2
          go_wp2
          · go_ret
            exact ⟨false, rfl, rfl, fun h => by cases h⟩
          · go_ret
            exact ⟨false, rfl, rfl, fun h => by cases h⟩
          · go_round
            case rel => exact ⟨k + 1, m + s.size, by omega, by go_num, by go_num, by omega, by omega⟩
            case measure => simp [intOf]; omega
        · go_wp2
          go_ret
          exact ⟨true, rfl, rfl, fun _ => HSM.out⟩

end Go.Proofs.Qxb6600043aMods.L
