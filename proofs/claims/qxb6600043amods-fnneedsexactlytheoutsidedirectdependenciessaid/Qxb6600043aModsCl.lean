import Derived.Test.Qxb6600043aModsCom
import Derived.Deep.RegionHeld
namespace Go.Proofs.Qxb6600043aMods.L
open Go.RowKit

theorem info9 : (Trym.prog.info? 9).map (fun i => (i.zero, i.size, i.bytes)) = some (some (.string ⟨#[]⟩), 1, 16) := by kernel_rfl
theorem info22 : (Trym.prog.info? 22).map (fun i => (i.zero, i.size, i.bytes)) = some (some (.slice none 0 0), 1, 24) := by kernel_rfl

/-- a slice's header -/
abbrev Hdr := Option Addr × Nat × Nat
def d0 : Hdr := (none, 0, 0)
def hv (h : Hdr) : Value := .slice h.1 h.2.1 h.2.2

abbrev Strs (w : World) (a : Option Addr) (len : Nat) (ss : List ByteArray) : Prop := Row Value.string ByteArray.empty w a len ss

/-- the inner slices read as these lists -/
def Rows (w : World) (hs : List Hdr) (dss : List (List ByteArray)) : Prop := hs.length = dss.length ∧ ∀ i, Strs w (hs.getD i d0).1 (hs.getD i d0).2.1 (dss.getD i [])

theorem Rows.below {w w' : World} {hs : List Hdr} {dss : List (List ByteArray)} (h : Rows w hs dss) {B : Nat} (hb : Below B w w') (hB : w.heap.size ≤ B) : Rows w' hs dss := ⟨h.1, fun i => (h.2 i).below hb hB⟩

theorem Row.setCell {α : Type} {val : α → Value} {d : α} {w : World} {a : Option Addr} {len : Nat} {xs : List α} (h : Row val d w a len xs) (p : Addr) (v : Value) (hp : ∀ x, a = some x → p.block < x.block) : Row val d (w.setCell p v) a len xs := by
  refine ⟨h.1, ?_⟩
  rcases h.2 with h0 | ⟨b, off, rfl, hlt, hc⟩
  · exact .inl h0
  · refine .inr ⟨b, off, rfl, ?_, fun i hi => ?_⟩
    · simpa using hlt
    · rw [World.cell?_setCell_far _ _ _ _ (by have := hp _ rfl; simp at this ⊢; omega)]
      exact hc.out i hi

set_option maxHeartbeats 400000 in
theorem copyStrs_any (a : Option Addr) (len cap : Nat) (xs : List ByteArray) (w : World) (hr : Row Value.string ByteArray.empty w a len xs) (hlen : len ≤ 1048576) :
    Calls Trym.prog 7 #[.slice a len cap] w (ClonePost Value.string ByteArray.empty xs w) := by
  have heq : ∀ (a : Option Addr) (n c : Nat) (W : World), (binOp .eql 22 (.slice a n c) (.slice none 0 0)).run Trym.prog W = .ok (.bool a.isNone) W := fun a n c W => Lib.run_eql_slice_nil W 22 9 a n c 0 0 Trym.underlying22
  obtain ⟨M, hMs, hMd, hmk⟩ := make_any (P := Trym.prog) (n := len) Trym.underlying22 info9 (by omega) (by omega)
  clear hMd
  obtain ⟨rfl, h0 | ⟨b, off, rfl, hb, hc⟩⟩ := hr
  · cases a with
    | none =>
      go_enter Trym.func7, Trym.ntmps7
      go_wp2
      go_ret
      exact ⟨none, by rw [h0]; rfl, ⟨rfl, .inl h0⟩, Below.refl _ _, fun x hx => by cases hx⟩
    | some a =>
      have HL : Hid (xs.length = 0) := h0
      have hmk0 : ∀ W : World, (Instr.makeSlice 22 (.int .i64 0) (.int .i64 0)).run Trym.prog W = .ok (.slice (some ⟨W.heap.size, 0, none⟩) 0 0) (W.alloc (.cells M 9)) := fun W => by simpa [h0] using hmk W
      rw [h0]
      clear hmk
      go_enter Trym.func7, Trym.ntmps7
      go_wp2
      refine wp_loop_rounds 1 ?_
      rw [rounds_succ]
      go_wp2
      go_ret
      exact ⟨some ⟨w.heap.size, 0, none⟩, by rw [HL.out]; rfl, ⟨rfl, .inl HL.out⟩, (Below.refl _ _).alloc (Nat.le_refl _) _, fun x hx => by cases hx; exact Nat.le_refl _⟩
  · have hst : Copied Value.string ByteArray.empty 9 w xs 0 (w.alloc (.cells M 9)) := Copied.start hMs
    clear hMs
    go_enter Trym.func7, Trym.ntmps7
    go_wp2
    go_loopw [4] (fun i wr => ∃ k : Nat, k ≤ xs.length ∧ i = .int .i64 k ∧ Copied Value.string ByteArray.empty 9 w xs k wr) (fun i _ => xs.length - (intOf i).toNat)
    case atStart => exact ⟨0, Nat.zero_le _, rfl, hst⟩
    case round =>
      obtain ⟨k, hk, rfl, hcp⟩ := hrel
      clear hst
      by_cases hlt : k < xs.length
      · have hcx : wr.cell? ⟨b, off + k, none⟩ = some (Value.string (xs.getD k ByteArray.empty)) := (hcp.bel.cell (p := ⟨b, off + k, none⟩) hb).trans (hc.out k hlt)
        obtain ⟨v, hv⟩ := hcp.cell hlt
        have hf := hcp.frozen k
        obtain ⟨s, hse⟩ : ∃ s, s = xs.getD k ByteArray.empty := ⟨_, rfl⟩
        rw [← hse] at hcx
        have hnext := hcp.step hlt hse
        clear hse hcp
        go_wp2
        go_roundw
        case rel => exact ⟨k + 1, by omega, by go_num, hnext⟩
        case measure => simp [intOf]; omega
      · go_wp2
        go_ret
        have : k = xs.length := by omega
        subst this
        exact ⟨_, rfl, hcp.post, hcp.bel, fun x hx => by cases hx; exact Nat.le_refl _⟩


end Go.Proofs.Qxb6600043aMods.L
