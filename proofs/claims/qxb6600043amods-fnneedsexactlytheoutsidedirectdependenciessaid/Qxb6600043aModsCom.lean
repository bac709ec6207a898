import Derived.Test.Qxb6600043aModsProg
import Derived.WalkKit
import Derived.WalkSpells
import Derived.Deep.QuietTactic
import Derived.BigQuiet
namespace Go.Proofs.Qxb6600043aMods.L
open Go.RowKit

/-- WHAT THE WALKS ARE TOLD OF A SLICE OF ONE-CELL ELEMENTS: 'len' elements 'xs'; where there is one, they lie in a row. -/
def Row {α : Type} (val : α → Value) (d : α) (w : World) (a : Option Addr) (len : Nat) (xs : List α) : Prop :=
  xs.length = len ∧ (len = 0 ∨ ∃ b off, a = some ⟨b, off, none⟩ ∧ b < w.heap.size ∧ Hid (∀ i, i < len → w.cell? ⟨b, off + i, none⟩ = some (val (xs.getD i d))))

section
variable {α : Type} {val : α → Value} {d : α}

theorem Row.at_pos {w : World} {a : Option Addr} {len : Nat} {xs : List α} (h : Row val d w a len xs) (hp : 0 < len) : ∃ b off, a = some ⟨b, off, none⟩ ∧ b < w.heap.size ∧ Hid (∀ i, i < len → w.cell? ⟨b, off + i, none⟩ = some (val (xs.getD i d))) := by
  rcases h.2 with h0 | h
  · omega
  · exact h

theorem Row.below {w w' : World} {a : Option Addr} {len : Nat} {xs : List α} (h : Row val d w a len xs) {B : Nat} (hb : Below B w w') (hB : w.heap.size ≤ B) : Row val d w' a len xs := by
  refine ⟨h.1, ?_⟩
  rcases h.2 with h0 | ⟨b, off, rfl, hlt, hc⟩
  · exact .inl h0
  · exact .inr ⟨b, off, rfl, Nat.lt_of_lt_of_le hlt hb.size, fun i hi => (hb.cell (p := ⟨b, off + i, none⟩) (by show b < B; omega)).trans (hc.out i hi)⟩

theorem Row.empty (w : World) (a : Option Addr) : Row val d w a 0 [] := ⟨rfl, .inl rfl⟩

/-- the address of a cut -/
def cutA (a : Option Addr) (cap l : Nat) : Option Addr := if cap = l then a else a.map (·.add l)

theorem Row.sub {w : World} {a : Option Addr} {len : Nat} {xs : List α} (hr : Row val d w a len xs) {l h cap : Nat} (hlh : l ≤ h) (hh : h ≤ len) (hc : len ≤ cap) : Row val d w (cutA a cap l) (h - l) ((xs.take h).drop l) := by
  have hlen := hr.1
  refine ⟨by simp; omega, ?_⟩
  by_cases h0 : h - l = 0
  · exact .inl h0
  · obtain ⟨b, off, rfl, hb, hcell⟩ := hr.at_pos (by omega)
    refine .inr ⟨b, off + l, ?_, hb, fun i hi => ?_⟩
    · rw [cutA, if_neg (by omega)]
      simp [Addr.add_lit]
    · rw [Nat.add_assoc, hcell.out (l + i) (by omega)]
      have : ((xs.take h).drop l).getD i d = xs.getD (l + i) d := by
        simp only [List.getD, List.getElem?_drop]
        rw [List.getElem?_take, if_pos (by omega)]
      rw [this]

/-- The copy after k rounds. -/
def Copied (val : α → Value) (d : α) (t : TypeId) (w : World) (xs : List α) (k : Nat) (wr : World) : Prop :=
  ∃ cur : Array Value, wr.heap[w.heap.size]? = some (.cells cur t (0, 0)) ∧ cur.size = xs.length ∧ (∀ i, i < k → cur[i]? = some (val (xs.getD i d))) ∧ Below w.heap.size w wr

variable {t : TypeId}

theorem Copied.start {w : World} {xs : List α} {M : Array Value} (hM : M.size = xs.length) : Copied val d t w xs 0 (w.alloc (.cells M t)) :=
  ⟨M, heap_alloc_new w _, hM, fun i hi => by omega, (Below.refl _ _).alloc (Nat.le_refl _) _⟩

theorem Copied.step {w wr : World} {xs : List α} {k : Nat} (h : Copied val d t w xs k wr) (hk : k < xs.length) {s : α} (hs : s = xs.getD k d) :
    Copied val d t w xs (k + 1) (wr.setCell ⟨w.heap.size, k, none⟩ (val s)) := by
  obtain ⟨cur, hg, hsz, hi, hb⟩ := h
  refine ⟨cur.setIfInBounds k (val s), heap_setCell_same wr _ k cur t _ hg, by simpa using hsz, fun i hik => ?_, hb.setCell (Nat.le_refl _) _⟩
  by_cases he : i = k
  · subst he
    rw [Array.getElem?_setIfInBounds_self_of_lt (by omega), hs]
  · rw [Array.getElem?_setIfInBounds_ne (fun e => he e.symm)]
    exact hi i (by omega)

theorem Copied.cell {w wr : World} {xs : List α} {k : Nat} (h : Copied val d t w xs k wr) {i : Nat} (hk : i < xs.length) : ∃ v, wr.cell? ⟨w.heap.size, i, none⟩ = some v := by
  obtain ⟨cur, hg, hsz, hi, hb⟩ := h
  refine ⟨cur[i]'(by omega), ?_⟩
  rw [cell_of_row wr _ i cur t (0, 0) hg]
  simp [hsz, hk]

theorem Copied.frozen {w wr : World} {xs : List α} {k : Nat} (h : Copied val d t w xs k wr) (i : Nat) : wr.frozen? ⟨w.heap.size, i, none⟩ = false := by
  obtain ⟨cur, hg, hsz, hi, hb⟩ := h
  exact frozen_of_row wr _ i cur t hg

theorem Copied.bel {w wr : World} {xs : List α} {k : Nat} (h : Copied val d t w xs k wr) : Below w.heap.size w wr := by
  obtain ⟨cur, hg, hsz, hi, hb⟩ := h
  exact hb

theorem Copied.post {w wr : World} {xs : List α} (h : Copied val d t w xs xs.length wr) : Row val d wr (some ⟨w.heap.size, 0, none⟩) xs.length xs := by
  obtain ⟨cur, hg, hsz, hi, hb⟩ := h
  refine ⟨rfl, .inr ⟨w.heap.size, 0, rfl, lt_of_block hg, fun i hil => ?_⟩⟩
  rw [Nat.zero_add, cell_of_row wr _ i cur t (0, 0) hg]
  exact hi i hil

/-- What a clone leaves: a slice of the same elements, of that capacity; nothing that was there has turned. -/
def ClonePost (val : α → Value) (d : α) (xs : List α) (w : World) (e : Ending) (w' : World) : Prop :=
  ∃ a, e = .returned (.slice a xs.length xs.length) ∧ Row val d w' a xs.length xs ∧ Below w.heap.size w w' ∧ ∀ x, a = some x → w.heap.size ≤ x.block
end

/-- 'make([]T, n)' -/
theorem make_any {P : Program} {t e : TypeId} {z : Value} {bytes : Nat} (ht : P.underlying t = some (.slice e)) (hinfo : (P.info? e).map (fun i => (i.zero, i.size, i.bytes)) = some (some z, 1, bytes)) {n : Nat} (hb : bytes * n ≤ 281474976710656) (hn : n ≤ 281474976710656) :
    ∃ M : Array Value, M.size = n ∧ M = madeCells z.cells n ∧ ∀ W : World, (Instr.makeSlice t (.int .i64 (n : Int)) (.int .i64 (n : Int))).run P W = .ok (.slice (some ⟨W.heap.size, 0, none⟩) n n) (W.alloc (.cells M e)) := by
  obtain ⟨i0, hi, hz0, hz1, hz2⟩ := info_parts hinfo
  refine ⟨madeCells z.cells n, by rw [size_madeCells], rfl, fun W => ?_⟩
  have hb' : (i0.bytes : Int) * (n : Int) ≤ 281474976710656 := by
    rw [hz2]
    have h : ((bytes * n : Nat) : Int) ≤ 281474976710656 := by omega
    rwa [Int.natCast_mul] at h
  have h := run_make (P := P) W t e i0 z ht hi hz0 .i64 .i64 (n : Int) (n : Int) (by omega) (by omega) hb' (by omega)
  simpa [hz1] using h

end Go.Proofs.Qxb6600043aMods.L
