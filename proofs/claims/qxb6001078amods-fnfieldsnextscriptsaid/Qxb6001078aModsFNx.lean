import Derived.Test.Qxb6001078aModsFCl
namespace Go.Proofs.Qxb6001078aMods.L
open Go.RowKit

theorem size5 (W : World) : (Go.sizeOf 5).run Trym.prog W = .ok 1 W := by kernel_rfl
theorem slice34 : Trym.prog.underlying 34 = some (.slice (Trym.prog.elem 34)) := by kernel_rfl
theorem elem34 : Trym.prog.elem 34 = 5 := by kernel_rfl

theorem run_cut_h (a : Option Addr) (len cap n : Nat) (h : n ≤ cap) (W : World) : (Instr.slice 34 (.slice a len cap) none (some (.int .i64 n)) none).run Trym.prog W = .ok (.slice (cutA a cap 0) n cap) W := by
  rw [run_slice_h W 34 a len cap slice34 .i64 n (by omega) (by omega), elem34, size5]
  simp [Result.andThen, sliced, cutA]
theorem run_cut_l (a : Option Addr) (len cap n : Nat) (h : n ≤ len) (W : World) : (Instr.slice 34 (.slice a len cap) (some (.int .i64 n)) none none).run Trym.prog W = .ok (.slice (cutA a cap n) (len - n) (cap - n)) W := by
  rw [run_slice_l W 34 a len cap slice34 .i64 n (by omega) (by omega), elem34, size5]
  simp [Result.andThen, sliced, cutA]
theorem run_cut_lh (a : Option Addr) (len cap l n : Nat) (h : l + n ≤ cap) (W : World) : (Instr.slice 34 (.slice a len cap) (some (.int .i64 l)) (some (.int .i64 ((l : Int) + n))) none).run Trym.prog W = .ok (.slice (cutA a cap l) n (cap - l)) W := by
  rw [run_slice_lh W 34 a len cap slice34 .i64 .i64 l ((l : Int) + n) (by omega) (by omega) (by omega), elem34, size5]
  have e : ((l : Int) + n).toNat = l + n := by omega
  simp [Result.andThen, sliced, cutA, e]

/-- What 'ZZFieldsNext' hands back. -/
def NextPost (w : World) (n : Nat) (fs : List Int) (rs : List Int) (sh : Bool) (e : Ending) (w' : World) : Prop :=
  ∃ a1 c1 a2 c2, e = .returned (.tuple #[.slice a1 n c1, .slice a2 rs.length c2, .bool sh]) ∧ Row (Value.int .u8) 0 w' a1 n fs ∧ Row (Value.int .u8) 0 w' a2 rs.length rs ∧ rs.length ≤ c2 ∧ c2 ≤ maxLen ∧ Below w.heap.size w w'

theorem zeros_row {wr : World} {M : Array Value} {n g : Nat} (hM : M = madeCells (Value.int .u8 0).cells n) (h : wr.heap[g]? = some (.cells M 5 (0, 0))) : Row (Value.int .u8) 0 wr (some ⟨g, 0, none⟩) n (List.replicate n 0) := by
  refine ⟨by simp, .inr ⟨g, 0, rfl, lt_of_block h, fun i hi => ?_⟩⟩
  rw [Nat.zero_add, cell_of_row wr _ i M 5 (0, 0) h, hM]
  have : (madeCells #[Value.int .u8 0] n)[i]? = (List.replicate n (Value.int .u8 0))[i]? := by
    rw [← toList_madeCells_one]; simp
  show (madeCells #[Value.int .u8 0] n)[i]? = _
  rw [this]
  simp [hi]

set_option maxHeartbeats 1000000 in
theorem next_over (a : Option Addr) (len cap : Nat) (sh : Bool) (n : Nat) (w : World) (h : len < n) (hn : n ≤ 65536) :
    Calls Trym.prog 16 #[.slice a len cap, .bool sh, .int .i64 n] w (NextPost w n (List.replicate n 0) [] true) := by
  obtain ⟨M, hMs, hMd, hmk⟩ := make_any (P := Trym.prog) (n := n) Trym.underlying34 info5 (by omega) (by omega)
  have HM : Hid (M = madeCells (Value.int .u8 0).cells n) := hMd
  clear hMd hMs
  go_enter Trym.func16, Trym.ntmps16
  go_wp2
  go_quiet (fail)
  go_wp2
  go_ret3
  refine ⟨_, _, _, _, rfl, zeros_row HM.out ?_, Row.empty _ _, Nat.zero_le _, Nat.zero_le _, ?_⟩
  · have h2 := heap_alloc_new (w.alloc (.cells #[.slice none 0 0, .bool true] 47)) (.cells M 5)
    have hs : (w.alloc (.cells #[.slice none 0 0, .bool true] 47)).heap.size = w.heap.size + 1 := by simp
    rw [hs] at h2
    exact h2
  · exact (((Below.refl _ _).alloc (Nat.le_refl _) _).alloc (by simp) _).trans ⟨rfl, rfl, rfl, Nat.le_refl _, fun _ _ => rfl⟩

set_option maxHeartbeats 1000000 in
theorem next_in (a : Option Addr) (len cap : Nat) (sh : Bool) (n : Nat) (xs : List Int) (w : World) (hr : Row (Value.int .u8) 0 w a len xs) (h : n ≤ len) (hn : n ≤ 65536) (hc : len ≤ cap) (hm : cap ≤ maxLen) :
    Calls Trym.prog 16 #[.slice a len cap, .bool sh, .int .i64 n] w (NextPost w n (xs.take n) (xs.drop n) sh) := by
  have hm' := hm
  unfold maxLen at hm'
  have hs1 := run_cut_h a len cap n (by omega)
  have hs2 := run_cut_l a len cap n h
  have HR : Hid (Row (Value.int .u8) 0 w a len xs) := hr
  have hl : xs.length = len := hr.1
  have HL : Hid (xs.length = len) := hl
  clear hr hl
  go_enter Trym.func16, Trym.ntmps16
  go_wp2
  go_quiet (fail)
  go_wp2
  go_ret3
  have hb : Below w.heap.size w ((w.alloc (.cells #[.slice (cutA a cap n) (len - n) (cap - n), .bool sh] 47)).drewN nq) := ((Below.refl _ _).alloc (Nat.le_refl _) _).trans ⟨rfl, rfl, rfl, Nat.le_refl _, fun _ _ => rfl⟩
  have r1 := (HR.out.sub (l := 0) (h := n) (Nat.zero_le _) h hc).below hb (Nat.le_refl _)
  have r2 := (HR.out.sub (l := n) (h := len) h (Nat.le_refl _) hc).below hb (Nat.le_refl _)
  have e1 : (xs.drop n).length = len - n := by simp [HL.out]
  have e2 : (xs.take len).drop n = xs.drop n := by rw [List.take_of_length_le (by rw [HL.out]; exact Nat.le_refl _)]
  rw [e2] at r2
  refine ⟨cutA a cap 0, cap, cutA a cap n, cap - n, ?_, by simpa using r1, by rw [e1]; exact r2, by omega, by omega, hb⟩
  rw [e1]; rfl

def SameUp (w : World) (e : Ending) (w' : World) : Prop := e = .returned (.bool true) ∧ ∃ n, w' = w.drewN n

set_option maxHeartbeats 400000 in
theorem allZero_any (a : Option Addr) (len cap : Nat) (xs : List Int) (w : World) (hr : Row (Value.int .u8) 0 w a len xs) (hz : ∀ i, i < len → xs.getD i 0 = 0) (hlen : len ≤ 1048576) :
    Calls Trym.prog 17 #[.slice a len cap] w fun e w' => e = .returned (.bool true) ∧ w' = w := by
  obtain ⟨rfl, h0 | ⟨b, off, rfl, hb, hc⟩⟩ := hr
  · rw [h0]
    go_enter Trym.func17, Trym.ntmps17
    go_wp2
    refine wp_loop_rounds 1 ?_
    rw [rounds_succ]
    go_wp2
    go_ret
    exact ⟨rfl, rfl⟩
  · have HZ : Hid (∀ i, i < xs.length → xs.getD i 0 = 0) := hz
    clear hz
    go_enter Trym.func17, Trym.ntmps17
    go_wp2
    go_loop [3] (fun i => ∃ k : Nat, k ≤ xs.length ∧ i = .int .i64 k) (fun i => xs.length - (intOf i).toNat)
    case atStart => exact ⟨0, Nat.zero_le _, rfl⟩
    case round =>
      obtain ⟨k, hk, rfl⟩ := hrel
      by_cases hlt : k < xs.length
      · have hcx := hc.out k hlt
        rw [HZ.out k hlt] at hcx
        go_wp2
        go_round
        case rel => exact ⟨k + 1, by omega, by go_num⟩
        case measure => simp [intOf]; omega
      · go_wp2
        go_ret
        exact ⟨rfl, rfl⟩

set_option maxHeartbeats 400000 in
theorem sameBytes_any (a a' : Option Addr) (len cap cap' : Nat) (xs : List Int) (w : World) (hr : Row (Value.int .u8) 0 w a len xs) (hr' : Row (Value.int .u8) 0 w a' len xs) (hlen : len ≤ 1048576) :
    Calls Trym.prog 18 #[.slice a len cap, .slice a' len cap'] w (SameUp w) := by
  rcases Nat.eq_zero_or_pos len with h0 | hp
  · subst h0
    go_enter Trym.func18, Trym.ntmps18
    go_wp2
    refine wp_loop_rounds 1 ?_
    rw [rounds_succ]
    go_wp2
    go_ret
    exact ⟨rfl, 0, rfl⟩
  · obtain ⟨b, off, rfl, hb, hc⟩ := hr.at_pos hp
    obtain ⟨b', off', rfl, hb', hc'⟩ := hr'.at_pos hp
    clear hr hr'
    go_enter Trym.func18, Trym.ntmps18
    go_wp2
    go_loopw [5] (fun i wr => ∃ k : Nat, k ≤ len ∧ i = .int .i64 k ∧ ∃ n, wr = w.drewN n) (fun i _ => len - (intOf i).toNat)
    case atStart => exact ⟨0, Nat.zero_le _, rfl, 0, rfl⟩
    case round =>
      obtain ⟨k, hk, rfl, n, rfl⟩ := hrel
      by_cases hlt : k < len
      · have hcx := hc.out k hlt
        have hcx' := hc'.out k hlt
        obtain ⟨z, hz⟩ : ∃ z, z = xs.getD k 0 := ⟨_, rfl⟩
        rw [← hz] at hcx hcx'
        have h1 : (0 : Int) ≤ (k : Int) := by omega
        have h2 : (k : Int) < (len : Int) := by omega
        clear hz
        go_wp2
        go_quiet (fail)
        go_wp2
        go_roundw
        case rel => exact ⟨k + 1, by omega, by go_num, _, rfl⟩
        case measure => simp [intOf]; omega
      · go_wp2
        go_ret
        exact ⟨rfl, n, rfl⟩

def SomeBool (w : World) (e : Ending) (w' : World) : Prop := ∃ b : Bool, e = .returned (.bool b) ∧ w' = w

set_option maxHeartbeats 400000 in
theorem bytes_any (a a' : Option Addr) (len cap len' cap' : Nat) (w : World) (hl : len ≤ maxLen) (hl' : len' ≤ maxLen) :
    Calls Trym.prog 13 #[.slice a len cap, .slice a' len' cap'] w (SomeBool w) := by
  unfold maxLen at hl hl'
  go_enter Trym.func13, Trym.ntmps13
  go_wp2
  all_goals
    go_ret
    exact ⟨_, rfl, rfl⟩

end Go.Proofs.Qxb6001078aMods.L
