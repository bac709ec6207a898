import Derived.Test.Qxb6001078aModsCom
namespace Go.Proofs.Qxb6001078aMods.L
open Go.RowKit

theorem info5 : (Trym.prog.info? 5).map (fun i => (i.zero, i.size, i.bytes)) = some (some (.int .u8 0), 1, 1) := by kernel_rfl
theorem info3 : (Trym.prog.info? 3).map (fun i => (i.zero, i.size, i.bytes)) = some (some (.int .i64 0), 1, 8) := by kernel_rfl

set_option maxHeartbeats 400000 in
theorem cloneBytes_any (a : Option Addr) (len cap : Nat) (xs : List Int) (w : World) (hr : Row (Value.int .u8) 0 w a len xs) (hlen : len ≤ 1048576) :
    Calls Trym.prog 14 #[.slice a len cap] w (ClonePost (Value.int .u8) 0 xs w) := by
  have heq : ∀ (a : Option Addr) (n c : Nat) (W : World), (binOp .eql 34 (.slice a n c) (.slice none 0 0)).run Trym.prog W = .ok (.bool a.isNone) W := fun a n c W => Lib.run_eql_slice_nil W 34 5 a n c 0 0 Trym.underlying34
  obtain ⟨M, hMs, hMd, hmk⟩ := make_any (P := Trym.prog) (n := len) Trym.underlying34 info5 (by omega) (by omega)
  clear hMd
  obtain ⟨rfl, h0 | ⟨b, off, rfl, hb, hc⟩⟩ := hr
  · cases a with
    | none =>
      go_enter Trym.func14, Trym.ntmps14
      go_wp2
      go_ret
      exact ⟨none, by rw [h0]; rfl, ⟨rfl, .inl h0⟩, Below.refl _ _⟩
    | some a =>
      have HL : Hid (xs.length = 0) := h0
      have hmk0 : ∀ W : World, (Instr.makeSlice 34 (.int .i64 0) (.int .i64 0)).run Trym.prog W = .ok (.slice (some ⟨W.heap.size, 0, none⟩) 0 0) (W.alloc (.cells M 5)) := fun W => by simpa [h0] using hmk W
      rw [h0]
      clear hmk
      go_enter Trym.func14, Trym.ntmps14
      go_wp2
      refine wp_loop_rounds 1 ?_
      rw [rounds_succ]
      go_wp2
      go_ret
      exact ⟨some ⟨w.heap.size, 0, none⟩, by rw [HL.out]; rfl, ⟨rfl, .inl HL.out⟩, (Below.refl _ _).alloc (Nat.le_refl _) _⟩
  · have hst : Copied (Value.int .u8) 0 5 w xs 0 (w.alloc (.cells M 5)) := Copied.start hMs
    clear hMs
    go_enter Trym.func14, Trym.ntmps14
    go_wp2
    go_loopw [4] (fun i wr => ∃ k : Nat, k ≤ xs.length ∧ i = .int .i64 k ∧ Copied (Value.int .u8) 0 5 w xs k wr) (fun i _ => xs.length - (intOf i).toNat)
    case atStart => exact ⟨0, Nat.zero_le _, rfl, hst⟩
    case round =>
      obtain ⟨k, hk, rfl, hcp⟩ := hrel
      clear hst
      by_cases hlt : k < xs.length
      · have hcx : wr.cell? ⟨b, off + k, none⟩ = some ((Value.int .u8) (xs.getD k 0)) := (hcp.bel.cell (p := ⟨b, off + k, none⟩) hb).trans (hc.out k hlt)
        obtain ⟨v, hv⟩ := hcp.cell hlt
        have hf := hcp.frozen k
        obtain ⟨s, hse⟩ : ∃ s, s = xs.getD k 0 := ⟨_, rfl⟩
        rw [← hse] at hcx
        have hnext := hcp.step hlt hse
        clear hse hcp
        go_wp2
        go_roundw
        case rel => exact ⟨k + 1, by omega, by go_num, hnext⟩
        case measure => simp [intOf]; omega
      · go_wp2
        go_ret
        have : k = xs.length := by omega
        subst this
        exact ⟨_, rfl, hcp.post, hcp.bel⟩

set_option maxHeartbeats 400000 in
theorem cloneInts_any (a : Option Addr) (len cap : Nat) (xs : List Int) (w : World) (hr : Row (Value.int .i64) 0 w a len xs) (hlen : len ≤ 1048576) :
    Calls Trym.prog 15 #[.slice a len cap] w (ClonePost (Value.int .i64) 0 xs w) := by
  have heq : ∀ (a : Option Addr) (n c : Nat) (W : World), (binOp .eql 35 (.slice a n c) (.slice none 0 0)).run Trym.prog W = .ok (.bool a.isNone) W := fun a n c W => Lib.run_eql_slice_nil W 35 3 a n c 0 0 Trym.underlying35
  obtain ⟨M, hMs, hMd, hmk⟩ := make_any (P := Trym.prog) (n := len) Trym.underlying35 info3 (by omega) (by omega)
  clear hMd
  obtain ⟨rfl, h0 | ⟨b, off, rfl, hb, hc⟩⟩ := hr
  · cases a with
    | none =>
      go_enter Trym.func15, Trym.ntmps15
      go_wp2
      go_ret
      exact ⟨none, by rw [h0]; rfl, ⟨rfl, .inl h0⟩, Below.refl _ _⟩
    | some a =>
      have HL : Hid (xs.length = 0) := h0
      have hmk0 : ∀ W : World, (Instr.makeSlice 35 (.int .i64 0) (.int .i64 0)).run Trym.prog W = .ok (.slice (some ⟨W.heap.size, 0, none⟩) 0 0) (W.alloc (.cells M 3)) := fun W => by simpa [h0] using hmk W
      rw [h0]
      clear hmk
      go_enter Trym.func15, Trym.ntmps15
      go_wp2
      refine wp_loop_rounds 1 ?_
      rw [rounds_succ]
      go_wp2
      go_ret
      exact ⟨some ⟨w.heap.size, 0, none⟩, by rw [HL.out]; rfl, ⟨rfl, .inl HL.out⟩, (Below.refl _ _).alloc (Nat.le_refl _) _⟩
  · have hst : Copied (Value.int .i64) 0 3 w xs 0 (w.alloc (.cells M 3)) := Copied.start hMs
    clear hMs
    go_enter Trym.func15, Trym.ntmps15
    go_wp2
    go_loopw [4] (fun i wr => ∃ k : Nat, k ≤ xs.length ∧ i = .int .i64 k ∧ Copied (Value.int .i64) 0 3 w xs k wr) (fun i _ => xs.length - (intOf i).toNat)
    case atStart => exact ⟨0, Nat.zero_le _, rfl, hst⟩
    case round =>
      obtain ⟨k, hk, rfl, hcp⟩ := hrel
      clear hst
      by_cases hlt : k < xs.length
      · have hcx : wr.cell? ⟨b, off + k, none⟩ = some ((Value.int .i64) (xs.getD k 0)) := (hcp.bel.cell (p := ⟨b, off + k, none⟩) hb).trans (hc.out k hlt)
        obtain ⟨v, hv⟩ := hcp.cell hlt
        have hf := hcp.frozen k
        obtain ⟨s, hse⟩ : ∃ s, s = xs.getD k 0 := ⟨_, rfl⟩
        rw [← hse] at hcx
        have hnext := hcp.step hlt hse
        clear hse hcp
        go_wp2
        go_roundw
        case rel => exact ⟨k + 1, by omega, by go_num, hnext⟩
        case measure => simp [intOf]; omega
      · go_wp2
        go_ret
        have : k = xs.length := by omega
        subst this
        exact ⟨_, rfl, hcp.post, hcp.bel⟩

end Go.Proofs.Qxb6001078aMods.L
