import Derived.Test.Qxb6001078aModsCom
namespace Go.Proofs.Qxb6001078aMods.L
open Go.RowKit

theorem info9 : (Trym.prog.info? 9).map (fun i => (i.zero, i.size, i.bytes)) = some (some (.string ⟨#[]⟩), 1, 16) := by kernel_rfl
theorem info2 : (Trym.prog.info? 2).map (fun i => (i.zero, i.size, i.bytes)) = some (some (.int .i64 0), 1, 8) := by kernel_rfl

set_option maxHeartbeats 400000 in
theorem cloneStrings_any (a : Option Addr) (len cap : Nat) (xs : List ByteArray) (w : World) (hr : Row Value.string ByteArray.empty w a len xs) (hlen : len ≤ 1048576) :
    Calls Trym.prog 7 #[.slice a len cap] w (ClonePost Value.string ByteArray.empty xs w) := by
  have heq : ∀ (a : Option Addr) (n c : Nat) (W : World), (binOp .eql 22 (.slice a n c) (.slice none 0 0)).run Trym.prog W = .ok (.bool a.isNone) W := fun a n c W => Lib.run_eql_slice_nil W 22 9 a n c 0 0 Trym.underlying22
  obtain ⟨M, hMs, hMd, hmk⟩ := make_any (P := Trym.prog) (n := len) Trym.underlying22 info9 (by omega) (by omega)
  clear hMd
  obtain ⟨rfl, h0 | ⟨b, off, rfl, hb, hc⟩⟩ := hr
  · cases a with
    | none =>
      go_enter Trym.func7, Trym.ntmps7
      go_wp2
      go_ret
      exact ⟨none, by rw [h0]; rfl, ⟨rfl, .inl h0⟩, Below.refl _ _⟩
    | some a =>
      have HL : Hid (xs.length = 0) := h0
      have hmk0 : ∀ W : World, (Instr.makeSlice 22 (.int .i64 0) (.int .i64 0)).run Trym.prog W = .ok (.slice (some ⟨W.heap.size, 0, none⟩) 0 0) (W.alloc (.cells M 9)) := fun W => by simpa [h0] using hmk W
      rw [h0]
      clear hmk
      go_enter Trym.func7, Trym.ntmps7
      go_wp2
      refine wp_loop_rounds 1 ?_
      rw [rounds_succ]
      go_wp2
      go_ret
      exact ⟨some ⟨w.heap.size, 0, none⟩, by rw [HL.out]; rfl, ⟨rfl, .inl HL.out⟩, (Below.refl _ _).alloc (Nat.le_refl _) _⟩
  · have hst : Copied Value.string ByteArray.empty 9 w xs 0 (w.alloc (.cells M 9)) := Copied.start hMs
    clear hMs
    go_enter Trym.func7, Trym.ntmps7
    go_wp2
    go_loopw [4] (fun i wr => ∃ k : Nat, k ≤ xs.length ∧ i = .int .i64 k ∧ Copied Value.string ByteArray.empty 9 w xs k wr) (fun i _ => xs.length - (intOf i).toNat)
    case atStart => exact ⟨0, Nat.zero_le _, rfl, hst⟩
    case round =>
      obtain ⟨k, hk, rfl, hcp⟩ := hrel
      clear hst
      by_cases hlt : k < xs.length
      · have hcx : wr.cell? ⟨b, off + k, none⟩ = some (Value.string (xs.getD k ByteArray.empty)) := (hcp.bel.cell (p := ⟨b, off + k, none⟩) hb).trans (hc.out k hlt)
        obtain ⟨v, hv⟩ := hcp.cell hlt
        have hf := hcp.frozen k
        obtain ⟨s, hse⟩ : ∃ s, s = xs.getD k ByteArray.empty := ⟨_, rfl⟩
        rw [← hse] at hcx
        have hnext := hcp.step hlt hse
        clear hse hcp
        go_wp2
        go_roundw
        case rel => exact ⟨k + 1, by omega, by go_num, hnext⟩
        case measure => simp [intOf]; omega
      · go_wp2
        go_ret
        have : k = xs.length := by omega
        subst this
        exact ⟨_, rfl, hcp.post, hcp.bel⟩

set_option maxHeartbeats 400000 in
theorem cloneInt64s_any (a : Option Addr) (len cap : Nat) (xs : List Int) (w : World) (hr : Row (Value.int .i64) 0 w a len xs) (hlen : len ≤ 1048576) :
    Calls Trym.prog 8 #[.slice a len cap] w (ClonePost (Value.int .i64) 0 xs w) := by
  have heq : ∀ (a : Option Addr) (n c : Nat) (W : World), (binOp .eql 23 (.slice a n c) (.slice none 0 0)).run Trym.prog W = .ok (.bool a.isNone) W := fun a n c W => Lib.run_eql_slice_nil W 23 2 a n c 0 0 Trym.underlying23
  obtain ⟨M, hMs, hMd, hmk⟩ := make_any (P := Trym.prog) (n := len) Trym.underlying23 info2 (by omega) (by omega)
  clear hMd
  obtain ⟨rfl, h0 | ⟨b, off, rfl, hb, hc⟩⟩ := hr
  · cases a with
    | none =>
      go_enter Trym.func8, Trym.ntmps8
      go_wp2
      go_ret
      exact ⟨none, by rw [h0]; rfl, ⟨rfl, .inl h0⟩, Below.refl _ _⟩
    | some a =>
      have HL : Hid (xs.length = 0) := h0
      have hmk0 : ∀ W : World, (Instr.makeSlice 23 (.int .i64 0) (.int .i64 0)).run Trym.prog W = .ok (.slice (some ⟨W.heap.size, 0, none⟩) 0 0) (W.alloc (.cells M 2)) := fun W => by simpa [h0] using hmk W
      rw [h0]
      clear hmk
      go_enter Trym.func8, Trym.ntmps8
      go_wp2
      refine wp_loop_rounds 1 ?_
      rw [rounds_succ]
      go_wp2
      go_ret
      exact ⟨some ⟨w.heap.size, 0, none⟩, by rw [HL.out]; rfl, ⟨rfl, .inl HL.out⟩, (Below.refl _ _).alloc (Nat.le_refl _) _⟩
  · have hst : Copied (Value.int .i64) 0 2 w xs 0 (w.alloc (.cells M 2)) := Copied.start hMs
    clear hMs
    go_enter Trym.func8, Trym.ntmps8
    go_wp2
    go_loopw [4] (fun i wr => ∃ k : Nat, k ≤ xs.length ∧ i = .int .i64 k ∧ Copied (Value.int .i64) 0 2 w xs k wr) (fun i _ => xs.length - (intOf i).toNat)
    case atStart => exact ⟨0, Nat.zero_le _, rfl, hst⟩
    case round =>
      obtain ⟨k, hk, rfl, hcp⟩ := hrel
      clear hst
      by_cases hlt : k < xs.length
      · have hcx : wr.cell? ⟨b, off + k, none⟩ = some ((Value.int .i64) (xs.getD k 0)) := (hcp.bel.cell (p := ⟨b, off + k, none⟩) hb).trans (hc.out k hlt)
        obtain ⟨v, hv⟩ := hcp.cell hlt
        have hf := hcp.frozen k
        obtain ⟨s, hse⟩ : ∃ s, s = xs.getD k 0 := ⟨_, rfl⟩
        rw [← hse] at hcx
        have hnext := hcp.step hlt hse
        clear hse hcp
        go_wp2
        go_roundw
        case rel => exact ⟨k + 1, by omega, by go_num, hnext⟩
        case measure => simp [intOf]; omega
      · go_wp2
        go_ret
        have : k = xs.length := by omega
        subst this
        exact ⟨_, rfl, hcp.post, hcp.bel⟩

theorem getD_le {ss : List ByteArray} {m : Nat} (h : ∀ s ∈ ss, s.size ≤ m) (k : Nat) : (ss.getD k ByteArray.empty).size ≤ m := by
  by_cases hk : k < ss.length
  · rw [List.getD, List.getElem?_eq_getElem hk]
    exact h _ (List.getElem_mem hk)
  · rw [List.getD, List.getElem?_eq_none (by omega)]
    exact Nat.zero_le _

/-- each of the first k strings is short -/
def Short (ss : List ByteArray) (k : Nat) : Prop := ∀ i, i < k → (ss.getD i ByteArray.empty).size ≤ 1048576

def BytesPost (ss : List ByteArray) (w : World) (e : Ending) (w' : World) : Prop :=
  ∃ b : Bool, e = .returned (.bool b) ∧ w' = w ∧ (b = true → Short ss ss.length)

set_option maxHeartbeats 1000000 in
theorem bytesS_any (a : Option Addr) (len cap : Nat) (ss : List ByteArray) (a' : Option Addr) (len' cap' : Nat) (key : ByteArray) (s1 s2 : Int) (w : World) (hr : Row Value.string ByteArray.empty w a len ss) (hlen : len ≤ maxLen) (hs : ∀ s ∈ ss, s.size ≤ maxLen) (hlen' : len' ≤ maxLen) (hkey : key.size ≤ maxLen) :
    Calls Trym.prog 5 #[.slice a len cap, .slice a' len' cap', .string key, .int .u64 s1, .int .u64 s2] w (BytesPost ss w) := by
  unfold maxLen at hlen hs hlen' hkey
  have hl := hr.1
  subst hl
  by_cases h1 : ss.length ≤ 1048576
  · go_enter Trym.func5, Trym.ntmps5
    go_wp2
    go_loop [11, 12] (fun n i => ∃ (k : Nat) (m : Int), k ≤ ss.length ∧ i = .int .i64 k ∧ n = .int .i64 m ∧ 0 ≤ m ∧ m ≤ 1048576 ∧ Short ss k) (fun _ i => ss.length - (intOf i).toNat)
    case atStart => exact ⟨0, ss.length, Nat.zero_le _, rfl, by simp, by omega, by omega, fun i hi => by omega⟩
    case round =>
      obtain ⟨k, m, hk, rfl, rfl, hm0, hm1, hall⟩ := hrel
      by_cases hlt : k < ss.length
      · obtain ⟨b, off, rfl, hb, hc⟩ := hr.at_pos (by omega)
        have hcx := hc.out k hlt
        have hsz := getD_le hs k
        obtain ⟨s, hse⟩ : ∃ s, s = ss.getD k ByteArray.empty := ⟨_, rfl⟩
        rw [← hse] at hcx hsz
        have HE : Hid (s = ss.getD k ByteArray.empty) := hse
        clear hse
        go_wp2
        · go_ret
          exact ⟨false, rfl, rfl, fun h => by cases h⟩
        · go_ret
          exact ⟨false, rfl, rfl, fun h => by cases h⟩
        · go_round
          case rel =>
            refine ⟨k + 1, m + s.size, by omega, by go_num, by go_num, by omega, by omega, fun i hi => ?_⟩
            by_cases he : i = k
            · subst he; rw [← HE.out]; omega
            · exact hall i (by omega)
          case measure => simp [intOf]; omega
      · have hall' : Short ss ss.length := fun i hi => hall i (by omega)
        clear hall
        go_wp2
        all_goals
          go_ret
          first | exact ⟨true, rfl, rfl, fun _ => hall'⟩ | exact ⟨false, rfl, rfl, fun h => by cases h⟩
  · go_enter Trym.func5, Trym.ntmps5
    go_wp2
    go_ret
    exact ⟨false, rfl, rfl, fun h => by cases h⟩

def BigPost (n m : Nat) (w : World) (e : Ending) (w' : World) : Prop :=
  ∃ b : Bool, e = .returned (.bool b) ∧ w' = w ∧ (b = false → n ≤ 65536 ∧ m ≤ 65536)

set_option maxHeartbeats 1000000 in
theorem tooBig_any (a : Option Addr) (len cap : Nat) (ss : List ByteArray) (a' : Option Addr) (len' cap' : Nat) (x : Nat) (w : World) (hr : Row Value.string ByteArray.empty w a len ss) (hlen : len ≤ maxLen) (hs : Short ss ss.length) (hlen' : len' ≤ maxLen) (hx : x ≤ maxLen) :
    Calls Trym.prog 6 #[.slice a len cap, .slice a' len' cap', .int .i64 x] w (BigPost len len' w) := by
  unfold maxLen at hlen hlen' hx
  have hl := hr.1
  subst hl
  by_cases h1 : 65536 < ss.length
  · go_enter Trym.func6, Trym.ntmps6
    go_wp2
    go_ret
    exact ⟨true, rfl, rfl, fun h => by cases h⟩
  by_cases h2 : 65536 < len'
  · go_enter Trym.func6, Trym.ntmps6
    go_wp2
    go_ret
    exact ⟨true, rfl, rfl, fun h => by cases h⟩
  by_cases h3 : 1048576 < x
  · go_enter Trym.func6, Trym.ntmps6
    go_wp2
    go_ret
    exact ⟨true, rfl, rfl, fun h => by cases h⟩
  by_cases h4 : 1048576 < x + 16 * ss.length + 8 * len'
  · go_enter Trym.func6, Trym.ntmps6
    go_wp2
    go_ret
    exact ⟨true, rfl, rfl, fun h => by cases h⟩
  have HP : Hid (ss.length ≤ 65536 ∧ len' ≤ 65536) := ⟨by omega, by omega⟩
  have d1 : decide ((65536 : Int) < (ss.length : Int)) = false := by simp; omega
  have d2 : decide ((65536 : Int) < (len' : Int)) = false := by simp; omega
  have d3 : decide ((1048576 : Int) < (x : Int)) = false := by simp; omega
  have d4 : decide ((1048576 : Int) < (x : Int) + 16 * (ss.length : Int) + 8 * (len' : Int)) = false := by simp; omega
  go_enter Trym.func6, Trym.ntmps6
  go_wp2
  go_loop [7, 8] (fun n i => ∃ (k : Nat) (m : Int), k ≤ ss.length ∧ i = .int .i64 k ∧ n = .int .i64 m ∧ 0 ≤ m ∧ m ≤ 1048576) (fun _ i => ss.length - (intOf i).toNat)
  case atStart => exact ⟨0, _, Nat.zero_le _, rfl, rfl, by omega, by omega⟩
  case round =>
    obtain ⟨k, m, hk, rfl, rfl, hm0, hm1⟩ := hrel
    by_cases hlt : k < ss.length
    · obtain ⟨b, off, rfl, hb, hc⟩ := hr.at_pos (by omega)
      have hcx := hc.out k hlt
      have hsz := hs k hlt
      obtain ⟨s, hse⟩ : ∃ s, s = ss.getD k ByteArray.empty := ⟨_, rfl⟩
      rw [← hse] at hcx hsz
      clear hse
      go_wp2
      · go_ret
        exact ⟨true, rfl, rfl, fun h => by cases h⟩
      · go_round
        case rel => exact ⟨k + 1, m + s.size, by omega, by go_num, by go_num, by omega, by omega⟩
        case measure => simp [intOf]; omega
    · go_wp2
      go_ret
      exact ⟨false, rfl, rfl, fun _ => HP.out⟩

set_option maxHeartbeats 400000 in
theorem pairCount_any (a a' : Option Addr) (len cap len' cap' : Nat) (w : World) :
    Calls Trym.prog 9 #[.slice a len cap, .slice a' len' cap'] w fun e w' => e = .returned (.int .i64 ((min len len' : Nat) : Int)) ∧ w' = w := by
  obtain ⟨m, hm⟩ : ∃ m, m = min len len' := ⟨_, rfl⟩
  rw [← hm]
  by_cases h : len < len'
  · have e : m = len := by omega
    subst e
    clear hm
    go_enter Trym.func9, Trym.ntmps9
    go_wp2
    go_ret
    exact ⟨rfl, rfl⟩
  · have e : m = len' := by omega
    subst e
    clear hm
    go_enter Trym.func9, Trym.ntmps9
    go_wp2
    go_ret
    exact ⟨rfl, rfl⟩

end Go.Proofs.Qxb6001078aMods.L
