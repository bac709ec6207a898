import Derived.Test.Qxb6000945aModsProg
import Derived.WalkKit
namespace Go.Proofs.Qxb6000945aMods.KID
open Go.RowKit

/-- WHAT THE WALKS ARE TOLD OF A SLICE OF STRINGS: 'len' strings 'ss', and where there is one, they lie in a row. -/
def Strs (w : World) (a : Option Addr) (len : Nat) (ss : List ByteArray) : Prop :=
  ss.length = len ∧ (len = 0 ∨ ∃ b off, a = some ⟨b, off, none⟩ ∧ b < w.heap.size ∧ Hid (∀ i, i < len → w.cell? ⟨b, off + i, none⟩ = some (.string (ss.getD i ByteArray.empty))))

theorem getD_le {ss : List ByteArray} {m : Nat} (h : ∀ s ∈ ss, s.size ≤ m) (k : Nat) : (ss.getD k ByteArray.empty).size ≤ m := by
  by_cases hk : k < ss.length
  · rw [List.getD, List.getElem?_eq_getElem hk]
    exact h _ (List.getElem_mem hk)
  · rw [List.getD, List.getElem?_eq_none (by omega)]
    exact Nat.zero_le _

/-- each of the first k strings is short -/
def Short (ss : List ByteArray) (k : Nat) : Prop := ∀ i, i < k → (ss.getD i ByteArray.empty).size ≤ 1048576

def BytesPost (ss : List ByteArray) (w : World) (e : Ending) (w' : World) : Prop :=
  ∃ b : Bool, e = .returned (.bool b) ∧ w' = w ∧ (b = true → Short ss ss.length)

theorem ret_bool {a b : Bool} (h : a = b) : Ending.returned (.bool a) = .returned (.bool b) := by rw [h]

set_option maxHeartbeats 400000 in
theorem bytes_any (a : Option Addr) (len cap : Nat) (ss : List ByteArray) (w : World) (hr : Strs w a len ss) (hlen : len ≤ maxLen) (hs : ∀ s ∈ ss, s.size ≤ maxLen) :
    Calls Trym.prog 18 #[.slice a len cap] w (BytesPost ss w) := by
  unfold maxLen at hlen hs
  obtain ⟨rfl, h0 | ⟨b, off, rfl, hb, hc⟩⟩ := hr
  · rw [h0]
    go_enter Trym.func18, Trym.ntmps18
    go_wp2
    refine wp_loop_rounds 1 ?_
    rw [rounds_succ]
    go_wp2
    go_ret
    exact ⟨true, rfl, rfl, fun _ i hi => by omega⟩
  by_cases h1 : ss.length ≤ 1048576
  · go_enter Trym.func18, Trym.ntmps18
    go_wp2
    go_loop [3, 4] (fun n i => ∃ (k : Nat) (m : Int), k ≤ ss.length ∧ i = .int .i64 k ∧ n = .int .i64 m ∧ 0 ≤ m ∧ m ≤ 1048576 ∧ Short ss k) (fun _ i => ss.length - (intOf i).toNat)
    case atStart => exact ⟨0, ss.length, Nat.zero_le _, rfl, by simp, by omega, by omega, fun i hi => by omega⟩
    case round =>
      obtain ⟨k, m, hk, rfl, rfl, hm0, hm1, hall⟩ := hrel
      by_cases hlt : k < ss.length
      · have hcx := hc.out k hlt
        have hsz := getD_le hs k
        obtain ⟨s, hse⟩ : ∃ s, s = ss.getD k ByteArray.empty := ⟨_, rfl⟩
        rw [← hse] at hcx hsz
        have HE : Hid (s = ss.getD k ByteArray.empty) := hse
        clear hse
        go_wp2
        · go_ret
          exact ⟨false, rfl, rfl, fun h => by cases h⟩
        · go_ret
          exact ⟨false, rfl, rfl, fun h => by cases h⟩
        · go_round
          case rel =>
            refine ⟨k + 1, m + s.size, by omega, by go_num, by go_num, by omega, by omega, fun i hi => ?_⟩
            by_cases he : i = k
            · subst he; rw [← HE.out]; omega
            · exact hall i (by omega)
          case measure => simp [intOf]; omega
      · go_wp2
        go_ret
        exact ⟨true, rfl, rfl, fun _ i hi => hall i (by omega)⟩
  · go_enter Trym.func18, Trym.ntmps18
    go_wp2
    go_ret
    exact ⟨false, rfl, rfl, fun h => by cases h⟩

def SomeInt (w : World) (e : Ending) (w' : World) : Prop := ∃ n : Int, e = .returned (.int .i64 n) ∧ w' = w

set_option maxHeartbeats 400000 in
theorem scriptBytes_any (a : Option Addr) (len cap : Nat) (ss : List ByteArray) (w : World) (hr : Strs w a len ss) (hlen : len ≤ maxLen) (hs : Short ss ss.length) :
    Calls Trym.prog 13 #[.slice a len cap] w (SomeInt w) := by
  unfold maxLen at hlen
  obtain ⟨rfl, h0 | ⟨b, off, rfl, hb, hc⟩⟩ := hr
  · rw [h0]
    go_enter Trym.func13, Trym.ntmps13
    go_wp2
    refine wp_loop_rounds 1 ?_
    rw [rounds_succ]
    go_wp2
    go_ret
    exact ⟨_, rfl, rfl⟩
  · go_enter Trym.func13, Trym.ntmps13
    go_wp2
    go_loop [3, 4] (fun n i => ∃ (k : Nat) (m : Int), k ≤ ss.length ∧ i = .int .i64 k ∧ n = .int .i64 m ∧ 0 ≤ m ∧ m ≤ 1048576) (fun _ i => ss.length - (intOf i).toNat)
    case atStart => exact ⟨0, 0, Nat.zero_le _, rfl, rfl, by omega, by omega⟩
    case round =>
      obtain ⟨k, m, hk, rfl, rfl, hm0, hm1⟩ := hrel
      by_cases hlt : k < ss.length
      · have hcx := hc.out k hlt
        have hsz := hs k hlt
        obtain ⟨s, hse⟩ : ∃ s, s = ss.getD k ByteArray.empty := ⟨_, rfl⟩
        rw [← hse] at hcx hsz
        clear hse
        go_wp2
        · go_ret
          exact ⟨_, rfl, rfl⟩
        · go_round
          case rel =>
            exact ⟨k + 1, m + (16 + s.size), by omega, by go_num, by go_num, by omega, by omega⟩
          case measure => simp [intOf]; omega
      · go_wp2
        go_ret
        exact ⟨_, rfl, rfl⟩

end Go.Proofs.Qxb6000945aMods.KID
