import Derived.Test.Qxb6001495aModsCom
namespace Go.Proofs.Qxb6001495aMods.L
open Go.RowKit

theorem info5 : (Trym.prog.info? 5).map (fun i => (i.zero, i.size, i.bytes)) = some (some (.int .u8 0), 1, 1) := by kernel_rfl
theorem info22 : (Trym.prog.info? 22).map (fun i => (i.zero, i.size, i.bytes)) = some (some (.int .u64 0), 1, 8) := by kernel_rfl
theorem info35 : (Trym.prog.info? 35).map (fun i => (i.zero, i.size, i.bytes)) = some (some (.int .u32 0), 1, 4) := by kernel_rfl

set_option maxHeartbeats 400000 in
theorem cloneU64_any (a : Option Addr) (len cap : Nat) (xs : List Int) (w : World) (hr : Row (Value.int .u64) 0 w a len xs) (hlen : len ≤ 1048576) :
    Calls Trym.prog 8 #[.slice a len cap] w (ClonePost (Value.int .u64) 0 xs w) := by
  have heq : ∀ (a : Option Addr) (n c : Nat) (W : World), (binOp .eql 23 (.slice a n c) (.slice none 0 0)).run Trym.prog W = .ok (.bool a.isNone) W := fun a n c W => Lib.run_eql_slice_nil W 23 22 a n c 0 0 Trym.underlying23
  obtain ⟨M, hMs, hMd, hmk⟩ := make_any (P := Trym.prog) (n := len) Trym.underlying23 info22 (by omega) (by omega)
  clear hMd
  obtain ⟨rfl, h0 | ⟨b, off, rfl, hb, hc⟩⟩ := hr
  · cases a with
    | none =>
      go_enter Trym.func8, Trym.ntmps8
      go_wp2
      go_ret
      exact ⟨none, by rw [h0]; rfl, ⟨rfl, .inl h0⟩, Below.refl _ _⟩
    | some a =>
      have HL : Hid (xs.length = 0) := h0
      have hmk0 : ∀ W : World, (Instr.makeSlice 23 (.int .i64 0) (.int .i64 0)).run Trym.prog W = .ok (.slice (some ⟨W.heap.size, 0, none⟩) 0 0) (W.alloc (.cells M 22)) := fun W => by simpa [h0] using hmk W
      rw [h0]
      clear hmk
      go_enter Trym.func8, Trym.ntmps8
      go_wp2
      refine wp_loop_rounds 1 ?_
      rw [rounds_succ]
      go_wp2
      go_ret
      exact ⟨some ⟨w.heap.size, 0, none⟩, by rw [HL.out]; rfl, ⟨rfl, .inl HL.out⟩, (Below.refl _ _).alloc (Nat.le_refl _) _⟩
  · have hst : Copied (Value.int .u64) 0 22 w xs 0 (w.alloc (.cells M 22)) := Copied.start hMs
    clear hMs
    go_enter Trym.func8, Trym.ntmps8
    go_wp2
    go_loopw [4] (fun i wr => ∃ k : Nat, k ≤ xs.length ∧ i = .int .i64 k ∧ Copied (Value.int .u64) 0 22 w xs k wr) (fun i _ => xs.length - (intOf i).toNat)
    case atStart => exact ⟨0, Nat.zero_le _, rfl, hst⟩
    case round =>
      obtain ⟨k, hk, rfl, hcp⟩ := hrel
      clear hst
      by_cases hlt : k < xs.length
      · have hcx : wr.cell? ⟨b, off + k, none⟩ = some ((Value.int .u64) (xs.getD k 0)) := (hcp.bel.cell (p := ⟨b, off + k, none⟩) hb).trans (hc.out k hlt)
        obtain ⟨v, hv⟩ := hcp.cell hlt
        have hf := hcp.frozen k
        obtain ⟨s, hse⟩ : ∃ s, s = xs.getD k 0 := ⟨_, rfl⟩
        rw [← hse] at hcx
        have hnext := hcp.step hlt hse
        clear hse hcp
        go_wp2
        go_roundw
        case rel => exact ⟨k + 1, by omega, by go_num, hnext⟩
        case measure => simp [intOf]; omega
      · go_wp2
        go_ret
        have : k = xs.length := by omega
        subst this
        exact ⟨_, rfl, hcp.post, hcp.bel⟩

set_option maxHeartbeats 400000 in
theorem cloneU32_any (a : Option Addr) (len cap : Nat) (xs : List Int) (w : World) (hr : Row (Value.int .u32) 0 w a len xs) (hlen : len ≤ 1048576) :
    Calls Trym.prog 9 #[.slice a len cap] w (ClonePost (Value.int .u32) 0 xs w) := by
  have heq : ∀ (a : Option Addr) (n c : Nat) (W : World), (binOp .eql 24 (.slice a n c) (.slice none 0 0)).run Trym.prog W = .ok (.bool a.isNone) W := fun a n c W => Lib.run_eql_slice_nil W 24 35 a n c 0 0 Trym.underlying24
  obtain ⟨M, hMs, hMd, hmk⟩ := make_any (P := Trym.prog) (n := len) Trym.underlying24 info35 (by omega) (by omega)
  clear hMd
  obtain ⟨rfl, h0 | ⟨b, off, rfl, hb, hc⟩⟩ := hr
  · cases a with
    | none =>
      go_enter Trym.func9, Trym.ntmps9
      go_wp2
      go_ret
      exact ⟨none, by rw [h0]; rfl, ⟨rfl, .inl h0⟩, Below.refl _ _⟩
    | some a =>
      have HL : Hid (xs.length = 0) := h0
      have hmk0 : ∀ W : World, (Instr.makeSlice 24 (.int .i64 0) (.int .i64 0)).run Trym.prog W = .ok (.slice (some ⟨W.heap.size, 0, none⟩) 0 0) (W.alloc (.cells M 35)) := fun W => by simpa [h0] using hmk W
      rw [h0]
      clear hmk
      go_enter Trym.func9, Trym.ntmps9
      go_wp2
      refine wp_loop_rounds 1 ?_
      rw [rounds_succ]
      go_wp2
      go_ret
      exact ⟨some ⟨w.heap.size, 0, none⟩, by rw [HL.out]; rfl, ⟨rfl, .inl HL.out⟩, (Below.refl _ _).alloc (Nat.le_refl _) _⟩
  · have hst : Copied (Value.int .u32) 0 35 w xs 0 (w.alloc (.cells M 35)) := Copied.start hMs
    clear hMs
    go_enter Trym.func9, Trym.ntmps9
    go_wp2
    go_loopw [4] (fun i wr => ∃ k : Nat, k ≤ xs.length ∧ i = .int .i64 k ∧ Copied (Value.int .u32) 0 35 w xs k wr) (fun i _ => xs.length - (intOf i).toNat)
    case atStart => exact ⟨0, Nat.zero_le _, rfl, hst⟩
    case round =>
      obtain ⟨k, hk, rfl, hcp⟩ := hrel
      clear hst
      by_cases hlt : k < xs.length
      · have hcx : wr.cell? ⟨b, off + k, none⟩ = some ((Value.int .u32) (xs.getD k 0)) := (hcp.bel.cell (p := ⟨b, off + k, none⟩) hb).trans (hc.out k hlt)
        obtain ⟨v, hv⟩ := hcp.cell hlt
        have hf := hcp.frozen k
        obtain ⟨s, hse⟩ : ∃ s, s = xs.getD k 0 := ⟨_, rfl⟩
        rw [← hse] at hcx
        have hnext := hcp.step hlt hse
        clear hse hcp
        go_wp2
        go_roundw
        case rel => exact ⟨k + 1, by omega, by go_num, hnext⟩
        case measure => simp [intOf]; omega
      · go_wp2
        go_ret
        have : k = xs.length := by omega
        subst this
        exact ⟨_, rfl, hcp.post, hcp.bel⟩

set_option maxHeartbeats 400000 in
theorem cloneU8_any (a : Option Addr) (len cap : Nat) (xs : List Int) (w : World) (hr : Row (Value.int .u8) 0 w a len xs) (hlen : len ≤ 1048576) :
    Calls Trym.prog 19 #[.slice a len cap] w (ClonePost (Value.int .u8) 0 xs w) := by
  have heq : ∀ (a : Option Addr) (n c : Nat) (W : World), (binOp .eql 39 (.slice a n c) (.slice none 0 0)).run Trym.prog W = .ok (.bool a.isNone) W := fun a n c W => Lib.run_eql_slice_nil W 39 5 a n c 0 0 Trym.underlying39
  obtain ⟨M, hMs, hMd, hmk⟩ := make_any (P := Trym.prog) (n := len) Trym.underlying39 info5 (by omega) (by omega)
  clear hMd
  obtain ⟨rfl, h0 | ⟨b, off, rfl, hb, hc⟩⟩ := hr
  · cases a with
    | none =>
      go_enter Trym.func19, Trym.ntmps19
      go_wp2
      go_ret
      exact ⟨none, by rw [h0]; rfl, ⟨rfl, .inl h0⟩, Below.refl _ _⟩
    | some a =>
      have HL : Hid (xs.length = 0) := h0
      have hmk0 : ∀ W : World, (Instr.makeSlice 39 (.int .i64 0) (.int .i64 0)).run Trym.prog W = .ok (.slice (some ⟨W.heap.size, 0, none⟩) 0 0) (W.alloc (.cells M 5)) := fun W => by simpa [h0] using hmk W
      rw [h0]
      clear hmk
      go_enter Trym.func19, Trym.ntmps19
      go_wp2
      refine wp_loop_rounds 1 ?_
      rw [rounds_succ]
      go_wp2
      go_ret
      exact ⟨some ⟨w.heap.size, 0, none⟩, by rw [HL.out]; rfl, ⟨rfl, .inl HL.out⟩, (Below.refl _ _).alloc (Nat.le_refl _) _⟩
  · have hst : Copied (Value.int .u8) 0 5 w xs 0 (w.alloc (.cells M 5)) := Copied.start hMs
    clear hMs
    go_enter Trym.func19, Trym.ntmps19
    go_wp2
    go_loopw [4] (fun i wr => ∃ k : Nat, k ≤ xs.length ∧ i = .int .i64 k ∧ Copied (Value.int .u8) 0 5 w xs k wr) (fun i _ => xs.length - (intOf i).toNat)
    case atStart => exact ⟨0, Nat.zero_le _, rfl, hst⟩
    case round =>
      obtain ⟨k, hk, rfl, hcp⟩ := hrel
      clear hst
      by_cases hlt : k < xs.length
      · have hcx : wr.cell? ⟨b, off + k, none⟩ = some ((Value.int .u8) (xs.getD k 0)) := (hcp.bel.cell (p := ⟨b, off + k, none⟩) hb).trans (hc.out k hlt)
        obtain ⟨v, hv⟩ := hcp.cell hlt
        have hf := hcp.frozen k
        obtain ⟨s, hse⟩ : ∃ s, s = xs.getD k 0 := ⟨_, rfl⟩
        rw [← hse] at hcx
        have hnext := hcp.step hlt hse
        clear hse hcp
        go_wp2
        go_roundw
        case rel => exact ⟨k + 1, by omega, by go_num, hnext⟩
        case measure => simp [intOf]; omega
      · go_wp2
        go_ret
        have : k = xs.length := by omega
        subst this
        exact ⟨_, rfl, hcp.post, hcp.bel⟩

end Go.Proofs.Qxb6001495aMods.L
