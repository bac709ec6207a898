import Derived.Test.Qxb6600043aModsCl
namespace Go.Proofs.Qxb6600043aMods.L
open Go.RowKit

/-- The deep copy after k rounds. -/
structure CopN (w : World) (dss : List (List ByteArray)) (k : Nat) (cur : Array Value) (hs : List Hdr) (wr : World) : Prop where
  blk : wr.heap[w.heap.size]? = some (.cells cur 22 (0, 0))
  size : cur.size = dss.length
  len : hs.length = k
  cell : ∀ i, i < k → cur[i]? = some (hv (hs.getD i d0))
  rows : ∀ i, i < k → Strs wr (hs.getD i d0).1 (hs.getD i d0).2.1 (dss.getD i [])
  new : ∀ i, i < k → ∀ x, (hs.getD i d0).1 = some x → w.heap.size < x.block
  bel : Below w.heap.size w wr

def CopyN (w : World) (dss : List (List ByteArray)) (k : Nat) (wr : World) : Prop := ∃ cur hs, CopN w dss k cur hs wr

theorem CopyN.start {w : World} {dss : List (List ByteArray)} {M : Array Value} (hM : M.size = dss.length) : CopyN w dss 0 (w.alloc (.cells M 22)) :=
  ⟨M, [], heap_alloc_new w _, hM, rfl, fun i hi => by omega, fun i hi => by omega, fun i hi => by omega, (Below.refl _ _).alloc (Nat.le_refl _) _⟩

theorem getD_snoc_lt {α : Type} {l : List α} {x d : α} {i : Nat} (h : i < l.length) : (l ++ [x]).getD i d = l.getD i d := by
  simp only [List.getD]
  rw [List.getElem?_append_left h]
theorem getD_snoc_eq {α : Type} {l : List α} {x d : α} : (l ++ [x]).getD l.length d = x := by
  simp [List.getD]

theorem CopN.step {w wr w1 : World} {dss : List (List ByteArray)} {k : Nat} {cur : Array Value} {hs : List Hdr} (h : CopN w dss k cur hs wr) (hk : k < dss.length) {a : Option Addr} {l c : Nat} (hb : Below wr.heap.size wr w1) (hr : Strs w1 a l (dss.getD k [])) (hn : ∀ x, a = some x → wr.heap.size ≤ x.block) :
    CopyN w dss (k + 1) (w1.setCell ⟨w.heap.size, k, none⟩ (.slice a l c)) := by
  have hlt := lt_of_block h.blk
  have hblk1 : w1.heap[w.heap.size]? = some (.cells cur 22 (0, 0)) := (hb.block _ hlt).trans h.blk
  refine ⟨cur.setIfInBounds k (.slice a l c), hs ++ [(a, l, c)], heap_setCell_same w1 _ k cur 22 _ hblk1, by simpa using h.size, by simp [h.len], fun i hi => ?_, fun i hi => ?_, fun i hi => ?_, (h.bel.trans (hb.mono h.bel.size)).setCell (Nat.le_refl _) _⟩
  · by_cases he : i = k
    · subst he
      rw [Array.getElem?_setIfInBounds_self_of_lt (by have := h.size; omega)]
      rw [← h.len, getD_snoc_eq]
      rfl
    · rw [Array.getElem?_setIfInBounds_ne (fun e => he e.symm), getD_snoc_lt (by have := h.len; omega)]
      exact h.cell i (by omega)
  · by_cases he : i = k
    · subst he
      rw [← h.len, getD_snoc_eq, h.len]
      refine hr.setCell _ _ fun x hx => ?_
      have := hn x hx
      simp
      omega
    · rw [getD_snoc_lt (by have := h.len; omega)]
      refine ((h.rows i (by omega)).below hb (Nat.le_refl _)).setCell _ _ fun x hx => ?_
      exact h.new i (by omega) x hx
  · by_cases he : i = k
    · subst he
      rw [← h.len, getD_snoc_eq]
      intro x hx
      have := hn x hx
      omega
    · rw [getD_snoc_lt (by have := h.len; omega)]
      exact h.new i (by omega)

theorem CopN.cellAt {w wr : World} {dss : List (List ByteArray)} {k : Nat} {cur : Array Value} {hs : List Hdr} (h : CopN w dss k cur hs wr) {w1 : World} (hb : Below wr.heap.size wr w1) {i : Nat} (hi : i < dss.length) : (∃ v, w1.cell? ⟨w.heap.size, i, none⟩ = some v) ∧ w1.frozen? ⟨w.heap.size, i, none⟩ = false := by
  have hblk1 : w1.heap[w.heap.size]? = some (.cells cur 22 (0, 0)) := (hb.block _ (lt_of_block h.blk)).trans h.blk
  have := h.size
  refine ⟨⟨cur[i]'(by omega), ?_⟩, frozen_of_row w1 _ i cur 22 hblk1⟩
  rw [cell_of_row w1 _ i cur 22 (0, 0) hblk1]
  simp [this, hi]

/-- What the deep copy leaves. -/
def DeepPost (dss : List (List ByteArray)) (w : World) (e : Ending) (w' : World) : Prop :=
  ∃ a hs, e = .returned (.slice a dss.length dss.length) ∧ Row hv d0 w' a dss.length hs ∧ Rows w' hs dss ∧ Below w.heap.size w w'

theorem CopyN.post {w wr : World} {dss : List (List ByteArray)} (h : CopyN w dss dss.length wr) : DeepPost dss w (.returned (.slice (some ⟨w.heap.size, 0, none⟩) dss.length dss.length)) wr := by
  obtain ⟨cur, hs, h⟩ := h
  refine ⟨_, hs, rfl, ⟨h.len, .inr ⟨w.heap.size, 0, rfl, lt_of_block h.blk, fun i hi => ?_⟩⟩, ⟨h.len, fun i => ?_⟩, h.bel⟩
  · rw [Nat.zero_add, cell_of_row wr _ i cur 22 (0, 0) h.blk]
    exact h.cell i hi
  · by_cases hi : i < dss.length
    · exact h.rows i hi
    · rw [List.getD, List.getElem?_eq_none (by have := h.len; omega), List.getD, List.getElem?_eq_none (by omega)]
      exact Row.empty _ _

theorem Rows.nil_of {w : World} {dss : List (List ByteArray)} (h : dss.length = 0) : Rows w [] dss := by
  have : dss = [] := List.length_eq_zero_iff.1 h
  subst this
  exact ⟨rfl, fun i => by simp [d0]; exact Row.empty _ _⟩

set_option maxHeartbeats 800000 in
theorem copyNested_any (a : Option Addr) (len cap : Nat) (hs : List Hdr) (dss : List (List ByteArray)) (w : World) (hr : Row hv d0 w a len hs) (hrs : Rows w hs dss) (hlen : len ≤ 1048576) (hin : ∀ i, (dss.getD i []).length ≤ 1048576) :
    Calls Trym.prog 8 #[.slice a len cap] w (DeepPost dss w) := by
  have heq : ∀ (a : Option Addr) (n c : Nat) (W : World), (binOp .eql 23 (.slice a n c) (.slice none 0 0)).run Trym.prog W = .ok (.bool a.isNone) W := fun a n c W => Lib.run_eql_slice_nil W 23 22 a n c 0 0 Trym.underlying23
  obtain ⟨M, hMs, hMd, hmk⟩ := make_any (P := Trym.prog) (n := len) Trym.underlying23 info22 (by omega) (by omega)
  clear hMd
  have hl := hrs.1
  have HRS : Hid (Rows w hs dss) := hrs
  have HIN : Hid (∀ i, (dss.getD i []).length ≤ 1048576) := hin
  clear hrs hin
  obtain ⟨rfl, h0 | ⟨b, off, rfl, hb, hc⟩⟩ := hr
  · have hd0 : dss.length = 0 := by omega
    cases a with
    | none =>
      go_enter Trym.func8, Trym.ntmps8
      go_wp2
      go_ret
      exact ⟨none, [], by rw [hd0]; rfl, by rw [hd0]; exact Row.empty _ _, Rows.nil_of hd0, Below.refl _ _⟩
    | some a =>
      have HL : Hid (dss.length = 0) := hd0
      have hmk0 : ∀ W : World, (Instr.makeSlice 23 (.int .i64 0) (.int .i64 0)).run Trym.prog W = .ok (.slice (some ⟨W.heap.size, 0, none⟩) 0 0) (W.alloc (.cells M 22)) := fun W => by simpa [h0] using hmk W
      rw [h0]
      clear hmk hd0 hl
      go_enter Trym.func8, Trym.ntmps8
      go_wp2
      refine wp_loop_rounds 1 ?_
      rw [rounds_succ]
      go_wp2
      go_ret
      exact ⟨some ⟨w.heap.size, 0, none⟩, [], by rw [HL.out]; rfl, by rw [HL.out]; exact Row.empty _ _, Rows.nil_of HL.out, (Below.refl _ _).alloc (Nat.le_refl _) _⟩
  · have hst : CopyN w dss 0 (w.alloc (.cells M 22)) := CopyN.start (by omega)
    have HLN : Hid (hs.length = dss.length) := hl
    clear hMs hl
    go_enter Trym.func8, Trym.ntmps8
    go_wp2
    go_loopw [4] (fun i wr => ∃ k : Nat, k ≤ hs.length ∧ i = .int .i64 k ∧ CopyN w dss k wr) (fun i _ => hs.length - (intOf i).toNat)
    case atStart => exact ⟨0, Nat.zero_le _, rfl, hst⟩
    case round =>
      obtain ⟨k, hk, rfl, cur, hs', hcp⟩ := hrel
      clear hst
      by_cases hlt : k < hs.length
      · have hcx : wr.cell? ⟨b, off + k, none⟩ = some (hv (hs.getD k d0)) := (hcp.bel.cell (p := ⟨b, off + k, none⟩) hb).trans (hc.out k hlt)
        have hri := HRS.out.2 k
        have hil := HIN.out k
        obtain ⟨⟨a1, l1, c1⟩, hse⟩ : ∃ s, s = hs.getD k d0 := ⟨_, rfl⟩
        rw [← hse] at hcx hri
        simp only [hv] at hcx hri
        have HCP : Hid (CopN w dss k cur hs' wr) := hcp
        have HRI : Hid (Strs w a1 l1 (dss.getD k [])) := hri
        have hl1 := hri.1
        clear hse hcp hri
        go_wp2_with fail
        refine (copyStrs_any a1 l1 c1 (dss.getD k []) wr (HRI.out.below HCP.out.bel (Nat.le_refl _)) (by omega)).mono ?_
        rintro e w1 ⟨a2, rfl, r2, bel2, new2⟩
        obtain ⟨⟨v, hv⟩, hf⟩ := HCP.out.cellAt bel2 (i := k) (by have := HLN.out; omega)
        have HNX : Hid (CopyN w dss (k + 1) (w1.setCell ⟨w.heap.size, k, none⟩ (.slice a2 (dss.getD k []).length (dss.getD k []).length))) := HCP.out.step (by have := HLN.out; omega) bel2 r2 new2
        clear r2 bel2 new2 hcx hl1
        go_wp2
        go_roundw
        case rel => exact ⟨k + 1, by omega, by go_num, HNX.out⟩
        case measure => simp [intOf]; omega
      · go_wp2
        go_ret
        have : k = dss.length := by have := HLN.out; omega
        subst this
        rw [HLN.out]
        exact CopyN.post ⟨cur, hs', hcp⟩

end Go.Proofs.Qxb6600043aMods.L
