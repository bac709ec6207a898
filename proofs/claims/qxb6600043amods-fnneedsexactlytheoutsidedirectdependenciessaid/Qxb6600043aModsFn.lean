import Derived.Test.Qxb6600043aModsCn
import Derived.Lib.SlicesS
namespace Go.Proofs.Qxb6600043aMods.L
open Go.RowKit

theorem mem_getD {ss : List ByteArray} {x : ByteArray} : x ∈ ss ↔ ∃ i, i < ss.length ∧ ss.getD i ByteArray.empty = x := by
  constructor
  · intro h
    obtain ⟨i, hi, he⟩ := List.getElem_of_mem h
    exact ⟨i, hi, by rw [List.getD, List.getElem?_eq_getElem hi]; exact he⟩
  · rintro ⟨i, hi, he⟩
    rw [List.getD, List.getElem?_eq_getElem hi] at he
    rw [← he]
    exact List.getElem_mem hi

/-- none of the first k is x -/
def NotIn (ss : List ByteArray) (x : ByteArray) (k : Nat) : Prop := ∀ i, i < k → ss.getD i ByteArray.empty ≠ x

theorem NotIn.not_mem {ss : List ByteArray} {x : ByteArray} {k : Nat} (h : NotIn ss x k) (hk : ss.length ≤ k) : x ∉ ss := by
  intro hm
  obtain ⟨i, hi, he⟩ := mem_getD.1 hm
  exact h i (by omega) he
theorem NotIn.step {ss : List ByteArray} {x : ByteArray} {k : Nat} (h : NotIn ss x k) {s : ByteArray} (he : s = ss.getD k ByteArray.empty) (hne : s ≠ x) : NotIn ss x (k + 1) := by
  intro i hi
  by_cases e : i = k
  · subst e; rw [← he]; exact hne
  · exact h i (by omega)

theorem has_true {ss : List ByteArray} {x : ByteArray} (h : x ∈ ss) : Lib.containsS ss x = true := (Lib.containsS_iff ss x).2 h
theorem has_false {ss : List ByteArray} {x : ByteArray} (h : x ∉ ss) : Lib.containsS ss x = false := by
  rw [Bool.eq_false_iff]
  exact fun e => h ((Lib.containsS_iff ss x).1 e)
theorem ne_beq {s x : ByteArray} (h : s ≠ x) : (s.toList == x.toList) = false := (Lib.bytes_beq_false_iff s x).2 h

def HasPost (ss : List ByteArray) (x : ByteArray) (w : World) (e : Ending) (w' : World) : Prop := e = .returned (.bool (Lib.containsS ss x)) ∧ w' = w

set_option maxHeartbeats 400000 in
theorem has_any (a : Option Addr) (len cap : Nat) (ss : List ByteArray) (x : ByteArray) (w : World) (hr : Strs w a len ss) (hlen : len ≤ 1099511627776) :
    Calls Trym.prog 12 #[.slice a len cap, .string x] w (HasPost ss x w) := by
  have hl := hr.1
  subst hl
  go_enter Trym.func12, Trym.ntmps12
  go_wp2
  go_loop [5] (fun i => ∃ k : Nat, k ≤ ss.length ∧ i = .int .i64 k ∧ NotIn ss x k) (fun i => ss.length - (intOf i).toNat)
  case atStart => exact ⟨0, Nat.zero_le _, rfl, fun i hi => by omega⟩
  case round =>
    obtain ⟨k, hk, rfl, hni⟩ := hrel
    by_cases hlt : k < ss.length
    · obtain ⟨b, off, rfl, hb, hc⟩ := hr.at_pos (by omega)
      have hcx := hc.out k hlt
      obtain ⟨s, hse⟩ : ∃ s, s = ss.getD k ByteArray.empty := ⟨_, rfl⟩
      rw [← hse] at hcx
      have HE : Hid (s = ss.getD k ByteArray.empty) := hse
      have HN : Hid (NotIn ss x k) := hni
      clear hse hni hr
      by_cases hsx : s = x
      · subst hsx
        go_wp2
        go_ret
        exact ⟨by rw [has_true (mem_getD.2 ⟨k, hlt, HE.out.symm⟩)]; rfl, rfl⟩
      · have HX : Hid (s ≠ x) := hsx
        have hd : (s.toList == x.toList) = false := ne_beq hsx
        go_wp2
        go_round
        case rel => exact ⟨k + 1, by omega, by go_num, HN.out.step HE.out HX.out⟩
        case measure => simp [intOf]; omega
    · go_wp2
      go_ret
      exact ⟨by rw [has_false (hni.not_mem (by omega))]; rfl, rfl⟩

def IndexPost (ss : List ByteArray) (x : ByteArray) (w : World) (e : Ending) (w' : World) : Prop := ∃ r : Int, e = .returned (.int .i64 r) ∧ w' = w ∧ decide (0 ≤ r) = Lib.containsS ss x

set_option maxHeartbeats 400000 in
theorem index_any (a : Option Addr) (len cap : Nat) (ss : List ByteArray) (x : ByteArray) (w : World) (hr : Strs w a len ss) (hlen : len ≤ 1099511627776) :
    Calls Trym.prog 19 #[.slice a len cap, .string x] w (IndexPost ss x w) := by
  have hl := hr.1
  subst hl
  go_enter Trym.func19, Trym.ntmps19
  go_wp2
  go_loop [5, 8] (fun _ i => ∃ k : Nat, k ≤ ss.length ∧ i = .int .i64 k ∧ NotIn ss x k) (fun _ i => ss.length - (intOf i).toNat)
  case atStart => exact ⟨0, Nat.zero_le _, rfl, fun i hi => by omega⟩
  case round =>
    obtain ⟨k, hk, rfl, hni⟩ := hrel
    by_cases hlt : k < ss.length
    · obtain ⟨b, off, rfl, hb, hc⟩ := hr.at_pos (by omega)
      have hcx := hc.out k hlt
      obtain ⟨s, hse⟩ : ∃ s, s = ss.getD k ByteArray.empty := ⟨_, rfl⟩
      rw [← hse] at hcx
      have HE : Hid (s = ss.getD k ByteArray.empty) := hse
      have HN : Hid (NotIn ss x k) := hni
      clear hse hni hr
      by_cases hsx : x = s
      · subst hsx
        go_wp2
        go_ret
        exact ⟨k, rfl, rfl, by rw [has_true (mem_getD.2 ⟨k, hlt, HE.out.symm⟩)]; simp⟩
      · have HX : Hid (s ≠ x) := fun e => hsx e.symm
        have hd : (x.toList == s.toList) = false := ne_beq hsx
        go_wp2
        go_round
        case rel => exact ⟨k + 1, by omega, by go_num, HN.out.step HE.out HX.out⟩
        case measure => simp [intOf]; omega
    · go_wp2
      go_ret
      exact ⟨-1, rfl, rfl, by rw [has_false (hni.not_mem (by omega))]; simp⟩

theorem contains_any (a : Option Addr) (len cap : Nat) (ss : List ByteArray) (x : ByteArray) (w : World) (hr : Strs w a len ss) (hlen : len ≤ 1099511627776) :
    Calls Trym.prog 18 #[.slice a len cap, .string x] w (HasPost ss x w) := by
  go_enter Trym.func18, Trym.ntmps18
  go_wp2_with fail
  refine (index_any a len cap ss x w hr hlen).mono ?_
  rintro e w' ⟨r, rfl, rfl, hrd⟩
  have HD : Hid (decide (0 ≤ r) = Lib.containsS ss x) := hrd
  clear hrd
  go_wp2
  go_ret
  exact ⟨by rw [← HD.out]; rfl, rfl⟩

def TruePost (w : World) (e : Ending) (w' : World) : Prop := e = .returned (.bool true) ∧ ∃ n, w' = w.drewN n

theorem Row.drewN {α : Type} {val : α → Value} {d : α} {w : World} {a : Option Addr} {len : Nat} {xs : List α} (h : Row val d w a len xs) (q : Nat) : Row val d (w.drewN q) a len xs :=
  ⟨h.1, h.2⟩
theorem Rows.drewN {w : World} {hs : List Hdr} {dss : List (List ByteArray)} (h : Rows w hs dss) (q : Nat) : Rows (w.drewN q) hs dss := ⟨h.1, fun i => (h.2 i).drewN q⟩

set_option maxHeartbeats 800000 in
theorem noRepeats_any (a : Option Addr) (len cap : Nat) (ss : List ByteArray) (w : World) (hr : Strs w a len ss) (hlen : len ≤ 1099511627776) (hnd : ss.Nodup) :
    Calls Trym.prog 11 #[.slice a len cap] w (TruePost w) := by
  have hl := hr.1
  subst hl
  have HND : Hid (ss.Nodup) := hnd
  clear hnd
  go_enter Trym.func11, Trym.ntmps11
  go_wp2
  go_loopw [3, 4] (fun i _ wr => ∃ k : Nat, k ≤ ss.length ∧ i = .int .i64 k ∧ ∃ q, wr = w.drewN q) (fun i _ _ => ss.length - (intOf i).toNat)
  case atStart => exact ⟨0, Nat.zero_le _, rfl, 0, rfl⟩
  case round =>
    obtain ⟨k, hk, rfl, q, rfl⟩ := hrel
    by_cases hlt : k < ss.length
    · obtain ⟨b, off, rfl, hb, hc⟩ := hr.at_pos (by omega)
      clear hr
      go_wp2
      go_loopw [4] (fun j wr => ∃ m : Nat, m ≤ k ∧ j = .int .i64 m ∧ ∃ q, wr = w.drewN q) (fun j _ => k - (intOf j).toNat)
      case atStart => exact ⟨0, Nat.zero_le _, rfl, q, rfl⟩
      case round =>
        clear q
        obtain ⟨m, hm, rfl, q, rfl⟩ := hrel
        by_cases hmk : m < k
        · have hcx := hc.out k hlt
          have hcy := hc.out m (by omega)
          have hne : ss.getD k ByteArray.empty ≠ ss.getD m ByteArray.empty := by
            rw [List.getD, List.getElem?_eq_getElem hlt, List.getD, List.getElem?_eq_getElem (by omega)]
            exact fun e => (List.pairwise_iff_getElem.1 HND.out) m k (by omega) hlt hmk e.symm
          obtain ⟨s, hse⟩ : ∃ s, s = ss.getD k ByteArray.empty := ⟨_, rfl⟩
          obtain ⟨t, hte⟩ : ∃ t, t = ss.getD m ByteArray.empty := ⟨_, rfl⟩
          rw [← hse] at hcx hne
          rw [← hte] at hcy hne
          have hd : (s.toList == t.toList) = false := ne_beq hne
          have h1 : (0 : Int) ≤ (k : Int) := by omega
          have h2 : (k : Int) < (ss.length : Int) := by omega
          have h3 : (0 : Int) ≤ (m : Int) := by omega
          have h4 : (m : Int) < (ss.length : Int) := by omega
          clear hse hte
          go_wp2
          go_quiet (fail)
          go_wp2
          go_roundw
          case rel => exact ⟨m + 1, by omega, by go_num, _, rfl⟩
          case measure => simp [intOf]; omega
        · go_wp2
          go_roundw
          case rel => exact ⟨k + 1, by omega, by go_num, _, rfl⟩
          case measure => simp [intOf]; omega
    · go_wp2
      go_ret
      exact ⟨rfl, _, rfl⟩

/-- the last declaration of n among the first k -/
def lastOf (ns : List ByteArray) (hs : List Hdr) (n : ByteArray) : Nat → Hdr
  | 0 => d0
  | k + 1 => if ns.getD k ByteArray.empty = n then hs.getD k d0 else lastOf ns hs n k

set_option maxHeartbeats 800000 in
theorem depsOf_any (a : Option Addr) (len cap : Nat) (ss : List ByteArray) (a' : Option Addr) (len' cap' : Nat) (hs : List Hdr) (x : ByteArray) (w : World) (hr : Strs w a len ss) (hr' : Row hv d0 w a' len' hs) (hlen : len ≤ 1048576) (hlen' : len' ≤ 1048576) :
    Calls Trym.prog 13 #[.slice a len cap, .slice a' len' cap', .string x] w (fun e w' => e = .returned (hv (lastOf ss hs x (min ss.length hs.length))) ∧ w' = w) := by
  have hl := hr.1
  have hl' := hr'.1
  subst hl hl'
  obtain ⟨n, hn⟩ : ∃ n, n = min ss.length hs.length := ⟨_, rfl⟩
  rw [← hn]
  have hn1 : n ≤ ss.length := by omega
  have hn2 : n ≤ hs.length := by omega
  have hn3 : ∀ k, ¬ k < n → k < ss.length → ¬ k < hs.length := by intro k h1 h2; omega
  have HN3 : Hid (∀ k, ¬ k < n → k < ss.length → ¬ k < hs.length) := hn3
  clear hn hn3
  go_enter Trym.func13, Trym.ntmps13
  go_wp2
  go_loop [7, 8] (fun o i => ∃ k : Nat, k ≤ n ∧ i = .int .i64 k ∧ o = hv (lastOf ss hs x k)) (fun _ i => n - (intOf i).toNat)
  case atStart => exact ⟨0, Nat.zero_le _, rfl, rfl⟩
  case round =>
    obtain ⟨k, hk, rfl, rfl⟩ := hrel
    by_cases hlt : k < n
    · obtain ⟨b, off, rfl, hb, hc⟩ := hr.at_pos (by omega)
      obtain ⟨b', off', rfl, hb', hc'⟩ := hr'.at_pos (by omega)
      have hcx := hc.out k (by omega)
      have hcy := hc'.out k (by omega)
      have HL : Hid (lastOf ss hs x (k + 1) = if ss.getD k ByteArray.empty = x then hs.getD k d0 else lastOf ss hs x k) := rfl
      obtain ⟨s, hse⟩ : ∃ s, s = ss.getD k ByteArray.empty := ⟨_, rfl⟩
      obtain ⟨h, hte⟩ : ∃ h, h = hs.getD k d0 := ⟨_, rfl⟩
      obtain ⟨o, ho⟩ : ∃ o, o = lastOf ss hs x k := ⟨_, rfl⟩
      rw [← hse, ← hte, ← ho] at HL
      rw [← hse] at hcx
      rw [← hte] at hcy
      rw [← ho]
      have q1 : (k : Int) < (ss.length : Int) := by omega
      have q2 : (k : Int) < (hs.length : Int) := by omega
      clear hse hte ho hr hr'
      by_cases hsx : s = x
      · subst hsx
        go_wp2
        go_round
        case rel => exact ⟨k + 1, by omega, by go_num, by rw [HL.out, if_pos rfl]⟩
        case measure => simp [intOf]; omega
      · have HX : Hid (s ≠ x) := hsx
        have hd : (s.toList == x.toList) = false := ne_beq hsx
        go_wp2
        go_round
        case rel => exact ⟨k + 1, by omega, by go_num, by rw [HL.out, if_neg HX.out]⟩
        case measure => simp [intOf]; omega
    · have hkn : k = n := by omega
      subst hkn
      by_cases h1 : k < ss.length
      · have h2 : ¬ (k < hs.length) := HN3.out k hlt h1
        go_wp2
        go_ret
        exact ⟨rfl, rfl⟩
      · go_wp2
        go_ret
        exact ⟨rfl, rfl⟩

end Go.Proofs.Qxb6600043aMods.L
