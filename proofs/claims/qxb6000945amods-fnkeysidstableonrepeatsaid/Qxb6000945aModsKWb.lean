import Derived.Test.Qxb6000945aModsKWa
import Derived.Test.Qxb6000945aModsKWc
import Derived.WalkSpells
namespace Go.Proofs.Qxb6000945aMods.KID
open Go.RowKit

theorem info9 : (Trym.prog.info? 9).map (fun i => (i.zero, i.size, i.bytes)) = some (some (.string ⟨#[]⟩), 1, 16) := by kernel_rfl

set_option maxHeartbeats 400000 in
/-- strings.Clone -/
theorem clone_any (s : ByteArray) (w : World) (hlim : s.size ≤ 1048576) :
    Calls Trym.prog 24 #[.string s] w fun e w' => e = .returned (.string s) ∧ Below w.heap.size w w' := by
  go_enter Trym.func24, Trym.ntmps24
  go_wp2_with fail
  refine (slClone_any s _ hlim).mono ?_
  rintro e w' ⟨rfl, hb⟩
  go_wp2
  go_ret
  exact ⟨rfl, hb⟩

/-- What 'zzCloneScript' leaves: a slice of the same strings; nothing that was there has turned. -/
def ClonePost (ss : List ByteArray) (w : World) (e : Ending) (w' : World) : Prop :=
  ∃ a cap, e = .returned (.slice a ss.length cap) ∧ Strs w' a ss.length ss ∧ Below w.heap.size w w'

/-- The copy after k rounds. -/
def Copied (w : World) (ss : List ByteArray) (k : Nat) (wr : World) : Prop :=
  ∃ cur : Array Value, wr.heap[w.heap.size]? = some (.cells cur 9 (0, 0)) ∧ cur.size = ss.length ∧ (∀ i, i < k → cur[i]? = some (.string (ss.getD i ByteArray.empty))) ∧ Below w.heap.size w wr

theorem Copied.step {w wr : World} {ss : List ByteArray} {k : Nat} (h : Copied w ss k wr) (hk : k < ss.length) {s : ByteArray} (hs : s = ss.getD k ByteArray.empty) :
    Copied w ss (k + 1) (wr.setCell ⟨w.heap.size, k, none⟩ (.string s)) := by
  obtain ⟨cur, hg, hsz, hi, hb⟩ := h
  refine ⟨cur.setIfInBounds k (.string s), heap_setCell_same wr _ k cur 9 _ hg, by simpa using hsz, fun i hik => ?_, hb.setCell (Nat.le_refl _) _⟩
  by_cases he : i = k
  · subst he
    rw [Array.getElem?_setIfInBounds_self_of_lt (by omega), hs]
  · rw [Array.getElem?_setIfInBounds_ne (fun e => he e.symm)]
    exact hi i (by omega)

theorem Copied.cell {w wr : World} {ss : List ByteArray} {k : Nat} (h : Copied w ss k wr) {i : Nat} (hk : i < ss.length) : ∃ v, wr.cell? ⟨w.heap.size, i, none⟩ = some v := by
  obtain ⟨cur, hg, hsz, hi, hb⟩ := h
  refine ⟨cur[i]'(by omega), ?_⟩
  rw [cell_of_row wr _ i cur 9 (0, 0) hg]
  simp [hsz, hk]

theorem Copied.frozen {w wr : World} {ss : List ByteArray} {k : Nat} (h : Copied w ss k wr) (i : Nat) : wr.frozen? ⟨w.heap.size, i, none⟩ = false := by
  obtain ⟨cur, hg, hsz, hi, hb⟩ := h
  exact frozen_of_row wr _ i cur 9 hg

theorem Copied.post {w wr : World} {ss : List ByteArray} (h : Copied w ss ss.length wr) : Strs wr (some ⟨w.heap.size, 0, none⟩) ss.length ss := by
  obtain ⟨cur, hg, hsz, hi, hb⟩ := h
  refine ⟨rfl, .inr ⟨w.heap.size, 0, rfl, lt_of_block hg, fun i hil => ?_⟩⟩
  rw [Nat.zero_add, cell_of_row wr _ i cur 9 (0, 0) hg]
  exact hi i hil

set_option maxHeartbeats 400000 in
theorem cloneScript_any (a : Option Addr) (len cap : Nat) (ss : List ByteArray) (w : World) (hr : Strs w a len ss) (hlen : len ≤ 65536) :
    Calls Trym.prog 14 #[.slice a len cap] w (ClonePost ss w) := by
  have heq : ∀ (a : Option Addr) (n c : Nat) (W : World), (binOp .eql 31 (.slice a n c) (.slice none 0 0)).run Trym.prog W = .ok (.bool a.isNone) W := fun a n c W => Lib.run_eql_slice_nil W 31 9 a n c 0 0 Trym.underlying31
  obtain ⟨M, hMs, hmk⟩ : ∃ M : Array Value, M.size = len ∧ ∀ W : World, (Instr.makeSlice 31 (.int .i64 (len : Int)) (.int .i64 (len : Int))).run Trym.prog W = .ok (.slice (some ⟨W.heap.size, 0, none⟩) len len) (W.alloc (.cells M 9)) := by
    obtain ⟨i0, hi, hz0, hz1, hz2⟩ := info_parts info9
    refine ⟨madeCells (Value.string ⟨#[]⟩).cells (((len : Nat) : Int).toNat * i0.size), by rw [size_madeCells, hz1]; simp, fun W => ?_⟩
    have h := run_make (P := Trym.prog) W 31 9 i0 (.string ⟨#[]⟩) Trym.underlying31 hi hz0 .i64 .i64 (len : Int) (len : Int) (by omega) (by omega) (by rw [hz2]; omega) (by omega)
    simpa using h
  obtain ⟨rfl, h0 | ⟨b, off, rfl, hb, hc⟩⟩ := hr
  · cases a with
    | none =>
      go_enter Trym.func14, Trym.ntmps14
      go_wp2
      go_ret
      exact ⟨none, 0, by rw [h0]; rfl, ⟨rfl, .inl h0⟩, Below.refl _ _⟩
    | some a =>
      have HL : Hid (ss.length = 0) := h0
      have hmk0 : ∀ W : World, (Instr.makeSlice 31 (.int .i64 0) (.int .i64 0)).run Trym.prog W = .ok (.slice (some ⟨W.heap.size, 0, none⟩) 0 0) (W.alloc (.cells M 9)) := fun W => by simpa [h0] using hmk W
      rw [h0]
      clear hmk
      go_enter Trym.func14, Trym.ntmps14
      go_wp2
      refine wp_loop_rounds 1 ?_
      rw [rounds_succ]
      go_wp2
      go_ret
      exact ⟨some ⟨w.heap.size, 0, none⟩, 0, by rw [HL.out]; rfl, ⟨rfl, .inl HL.out⟩, (Below.refl _ _).alloc (Nat.le_refl _) _⟩
  · have hst : Copied w ss 0 (w.alloc (.cells M 9)) := ⟨M, heap_alloc_new w _, hMs, fun i hi => by omega, (Below.refl _ _).alloc (Nat.le_refl _) _⟩
    clear hMs
    go_enter Trym.func14, Trym.ntmps14
    go_wp2
    go_loopw [4] (fun i wr => ∃ k : Nat, k ≤ ss.length ∧ i = .int .i64 k ∧ Copied w ss k wr) (fun i _ => ss.length - (intOf i).toNat)
    case atStart => exact ⟨0, Nat.zero_le _, rfl, hst⟩
    case round =>
      obtain ⟨k, hk, rfl, hcp⟩ := hrel
      clear hst
      by_cases hlt : k < ss.length
      · have hcx : wr.cell? ⟨b, off + k, none⟩ = some (.string (ss.getD k ByteArray.empty)) := by
          obtain ⟨_, _, _, _, hbl⟩ := hcp
          exact (hbl.cell (p := ⟨b, off + k, none⟩) hb).trans (hc.out k hlt)
        obtain ⟨v, hv⟩ := hcp.cell hlt
        have hf := hcp.frozen k
        obtain ⟨s, hse⟩ : ∃ s, s = ss.getD k ByteArray.empty := ⟨_, rfl⟩
        rw [← hse] at hcx
        have hnext := hcp.step hlt hse
        clear hse hcp
        go_wp2
        go_roundw
        case rel => exact ⟨k + 1, by omega, by go_num, hnext⟩
        case measure => simp [intOf]; omega
      · go_wp2
        go_ret
        have : k = ss.length := by omega
        subst this
        exact ⟨_, _, rfl, hcp.post, hcp.choose_spec.2.2.2⟩

end Go.Proofs.Qxb6000945aMods.KID
