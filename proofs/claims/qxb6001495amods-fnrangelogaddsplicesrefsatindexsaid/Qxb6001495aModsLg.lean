import Derived.Test.Qxb6001495aModsCl
namespace Go.Proofs.Qxb6001495aMods.L
open Go.RowKit

/-- an entry's cells -/
def ent (p : Int × Int) : List Value := [.int .u64 p.1, .int .i64 0, .int .u32 p.2, .int .u32 0]
def cellsL (es : List (Int × Int)) : List Value := es.flatMap ent
/-- the sum of the lengths -/
def sumN : List (Int × Int) → Int
  | [] => 0
  | p :: r => p.2 + sumN r

theorem cellsL_length (es : List (Int × Int)) : (cellsL es).length = es.length * 4 := by
  induction es with
  | nil => rfl
  | cons p r ih => simp only [cellsL, List.flatMap_cons, List.length_append, List.length_cons] at ih ⊢; rw [ih]; simp [ent]; omega

theorem cellsL_append (es fs : List (Int × Int)) : cellsL (es ++ fs) = cellsL es ++ cellsL fs := by simp [cellsL]

theorem cellsL_take (es : List (Int × Int)) (k : Nat) : cellsL (es.take k) = (cellsL es).take (k * 4) := by
  induction es generalizing k with
  | nil => simp [cellsL]
  | cons p r ih =>
    cases k with
    | zero => simp [cellsL]
    | succ k =>
      have e : (k + 1) * 4 = (ent p).length + k * 4 := by simp [ent]; omega
      rw [List.take_succ_cons]
      show ent p ++ cellsL (r.take k) = (ent p ++ cellsL r).take _
      rw [e, List.take_length_add_append, ih]

theorem cellsL_at (es : List (Int × Int)) (i : Nat) (h : i < es.length) (j : Nat) (hj : j < 4) : (cellsL es)[i * 4 + j]? = (ent es[i])[j]? := by
  induction es generalizing i with
  | nil => simp at h
  | cons p r ih =>
    cases i with
    | zero =>
      show (ent p ++ cellsL r)[0 * 4 + j]? = _
      rw [List.getElem?_append_left (by simp [ent]; omega)]
      simp
    | succ i =>
      show (ent p ++ cellsL r)[(i + 1) * 4 + j]? = _
      rw [List.getElem?_append_right (by simp [ent]; omega)]
      have e : (i + 1) * 4 + j - (ent p).length = i * 4 + j := by simp [ent]; omega
      rw [e, ih i (by simpa using h)]
      rfl

/-- THE LOG in block lb: from 'base' on the entries 'es', its size field 'sz'. -/
structure Log (w : World) (lb : Nat) (base : Int) (es : List (Int × Int)) (sz : Int) (a : Option Addr) (cap : Nat) : Prop where
  box : w.heap[lb]? = some (.cells #[.int .u64 0, .int .u64 0, .int .u64 0, .bool false, .int .u64 base, .slice a es.length cap, .int .u64 sz, .slice none 0 0] 49 (0, 0))
  row : w.ownsRow lb 43 4 (.slice a es.length cap) es.length (cellsL es)

theorem Log.cells {w : World} {lb : Nat} {base : Int} {es : List (Int × Int)} {sz : Int} {a : Option Addr} {cap : Nat} (h : Log w lb base es sz a cap) :
    w.cell? ⟨lb, 3, none⟩ = some (.bool false) ∧ w.cell? ⟨lb, 4, none⟩ = some (.int .u64 base) ∧ w.cell? ⟨lb, 5, none⟩ = some (.slice a es.length cap) ∧ w.cell? ⟨lb, 6, none⟩ = some (.int .u64 sz) := by
  refine ⟨?_, ?_, ?_, ?_⟩ <;> (rw [cell_of_row w lb _ _ _ _ h.box]; rfl)

set_option maxHeartbeats 400000 in
theorem len_any (lb : Nat) (base : Int) (es : List (Int × Int)) (sz : Int) (a : Option Addr) (cap : Nat) (w : World) (h : Log w lb base es sz a cap) :
    Calls Trym.prog 13 #[.pointer (some ⟨lb, 0, none⟩)] w fun e w' => e = .returned (.int .i64 es.length) ∧ w' = w := by
  obtain ⟨c3, c4, c5, c6⟩ := h.cells
  go_enter Trym.func13, Trym.ntmps13
  go_wp2
  go_ret
  exact ⟨rfl, rfl⟩

set_option maxHeartbeats 400000 in
theorem size_any (lb : Nat) (base : Int) (es : List (Int × Int)) (sz : Int) (a : Option Addr) (cap : Nat) (w : World) (h : Log w lb base es sz a cap) :
    Calls Trym.prog 14 #[.pointer (some ⟨lb, 0, none⟩)] w fun e w' => e = .returned (.int .u64 sz) ∧ w' = w := by
  obtain ⟨c3, c4, c5, c6⟩ := h.cells
  go_enter Trym.func14, Trym.ntmps14
  go_wp2
  go_ret
  exact ⟨rfl, rfl⟩

set_option maxHeartbeats 400000 in
theorem base_any (lb : Nat) (base : Int) (es : List (Int × Int)) (sz : Int) (a : Option Addr) (cap : Nat) (w : World) (h : Log w lb base es sz a cap) :
    Calls Trym.prog 20 #[.pointer (some ⟨lb, 0, none⟩)] w fun e w' => e = .returned (.int .u64 base) ∧ w' = w := by
  obtain ⟨c3, c4, c5, c6⟩ := h.cells
  go_enter Trym.func20, Trym.ntmps20
  go_wp2
  go_ret
  exact ⟨rfl, rfl⟩

set_option maxHeartbeats 400000 in
theorem new_any (w : World) : Calls Trym.prog 10 #[] w fun e w' => e = .returned (.pointer (some ⟨w.heap.size, 0, none⟩)) ∧ w' = w.alloc (.cells #[.int .u64 0, .int .u64 0, .int .u64 0, .bool false, .int .u64 0, .slice none 0 0, .int .u64 0, .slice none 0 0] 49) := by
  go_enter Trym.func10, Trym.ntmps10
  go_wp2
  go_ret
  exact ⟨rfl, rfl⟩

/-- the entries' block -/
theorem Log.at {w : World} {lb : Nat} {base : Int} {es : List (Int × Int)} {sz : Int} {a : Option Addr} {cap : Nat} (h : Log w lb base es sz a cap) {i : Nat} (hi : i < es.length) :
    ∃ g, a = some ⟨g, 0, none⟩ ∧ w.cell? ⟨g, i * 4, none⟩ = some (.int .u64 es[i].1) ∧ w.cell? ⟨g, i * 4 + 1, none⟩ = some (.int .i64 0) ∧ w.cell? ⟨g, i * 4 + 2, none⟩ = some (.int .u32 es[i].2) ∧ w.cell? ⟨g, i * 4 + 3, none⟩ = some (.int .u32 0) := by
  have hr := h.row
  rcases hr.2 with ⟨_, h0⟩ | ⟨g, c, cur, hv, _⟩
  · omega
  · simp only [Value.slice.injEq] at hv
    obtain ⟨rfl, _, rfl⟩ := hv
    refine ⟨g, rfl, ?_, ?_, ?_, ?_⟩
    · rw [hr.cellAt _ (by omega)]; exact cellsL_at es i hi 0 (by omega)
    · rw [hr.cellAt _ (by omega)]; exact cellsL_at es i hi 1 (by omega)
    · rw [hr.cellAt _ (by omega)]; exact cellsL_at es i hi 2 (by omega)
    · rw [hr.cellAt _ (by omega)]; exact cellsL_at es i hi 3 (by omega)

set_option maxHeartbeats 400000 in
theorem nAt_any (lb : Nat) (base : Int) (es : List (Int × Int)) (sz : Int) (a : Option Addr) (cap : Nat) (i : Nat) (n : Int) (w : World) (h : Log w lb base es sz a cap) (hi : i < es.length) (hn : es[i].2 = n) :
    Calls Trym.prog 23 #[.pointer (some ⟨lb, 0, none⟩), .int .i64 i] w fun e w' => e = .returned (.int .u32 n) ∧ w' = w := by
  obtain ⟨c3, c4, c5, c6⟩ := h.cells
  obtain ⟨g, rfl, e0, e1, e2, e3⟩ := h.at hi
  rw [hn] at e2
  clear hn e0 e1 e3 c3 c4 c6
  go_enter Trym.func23, Trym.ntmps23
  go_wp2
  go_ret
  exact ⟨rfl, rfl⟩

/-- What 'term' answers. -/
def TermPost (w : World) (t : Int) (b : Bool) (e : Ending) (w' : World) : Prop := e = .returned (.tuple #[.int .u64 t, .bool b]) ∧ ∃ n, w' = w.drewN n

set_option maxHeartbeats 1000000 in
theorem term_yes (lb : Nat) (base : Int) (es : List (Int × Int)) (sz : Int) (a : Option Addr) (cap : Nat) (x t : Int) (i : Nat) (w : World) (h : Log w lb base es sz a cap) (h0 : 0 ≤ base) (hx : base ≤ x) (hX : x ≤ 18446744073709551615) (hxi : x - base = (i : Int)) (hi : i < es.length) (hl : es.length ≤ 1048576) (ht : es[i].1 = t) :
    Calls Trym.prog 26 #[.pointer (some ⟨lb, 0, none⟩), .int .u64 x] w (TermPost w t true) := by
  obtain ⟨c3, c4, c5, c6⟩ := h.cells
  obtain ⟨g, rfl, e0, e1, e2, e3⟩ := h.at hi
  rw [ht] at e0
  have hI : (x - base).toNat = i := by omega
  rw [← hI] at e0
  have hlt : x - base < (es.length : Int) := by omega
  have hge : 0 ≤ x - base := by omega
  clear ht e1 e2 e3 c6 hxi hI hi h
  go_enter Trym.func26, Trym.ntmps26
  go_wp2
  go_quiet (fail)
  go_wp2
  go_quiet (fail)
  go_wp2
  go_ret2
  refine ⟨rfl, ?_⟩
  rw [World.drewN_drewN]
  exact ⟨_, rfl⟩

set_option maxHeartbeats 1000000 in
theorem term_low (lb : Nat) (base : Int) (es : List (Int × Int)) (sz : Int) (a : Option Addr) (cap : Nat) (x : Int) (w : World) (h : Log w lb base es sz a cap) (hx : x < base) :
    Calls Trym.prog 26 #[.pointer (some ⟨lb, 0, none⟩), .int .u64 x] w (TermPost w 0 false) := by
  obtain ⟨c3, c4, c5, c6⟩ := h.cells
  have hd : decide (base ≤ x) = false := by simpa using hx
  clear h c6
  go_enter Trym.func26, Trym.ntmps26
  go_wp2
  go_quiet (fail)
  go_wp2
  go_ret2
  exact ⟨rfl, _, rfl⟩

set_option maxHeartbeats 1000000 in
theorem term_high (lb : Nat) (base : Int) (es : List (Int × Int)) (sz : Int) (a : Option Addr) (cap : Nat) (x : Int) (w : World) (h : Log w lb base es sz a cap) (h0 : 0 ≤ base) (hx : base ≤ x) (hX : x ≤ 18446744073709551615) (hge : (es.length : Int) ≤ x - base) (hl : es.length ≤ 1048576) :
    Calls Trym.prog 26 #[.pointer (some ⟨lb, 0, none⟩), .int .u64 x] w (TermPost w 0 false) := by
  obtain ⟨c3, c4, c5, c6⟩ := h.cells
  clear h c6
  go_enter Trym.func26, Trym.ntmps26
  go_wp2
  go_quiet (fail)
  go_wp2
  go_ret2
  exact ⟨rfl, _, rfl⟩

/-- the entry at index x, as the log answers -/
def termOf (base : Int) (es : List (Int × Int)) (x : Int) : Int × Bool :=
  if base ≤ x then (match es[(x - base).toNat]? with | some p => (p.1, true) | none => (0, false)) else (0, false)

theorem term_all (lb : Nat) (base : Int) (es : List (Int × Int)) (sz : Int) (a : Option Addr) (cap : Nat) (x : Int) (w : World) (h : Log w lb base es sz a cap) (h0 : 0 ≤ base) (hX : x ≤ 18446744073709551615) (hl : es.length ≤ 1048576) :
    Calls Trym.prog 26 #[.pointer (some ⟨lb, 0, none⟩), .int .u64 x] w (TermPost w (termOf base es x).1 (termOf base es x).2) := by
  by_cases hx : base ≤ x
  · by_cases hi : (x - base).toNat < es.length
    · have e : termOf base es x = (es[(x - base).toNat].1, true) := by simp [termOf, hx, List.getElem?_eq_getElem hi]
      rw [e]
      exact term_yes lb base es sz a cap x _ (x - base).toNat w h h0 hx hX (by omega) hi hl rfl
    · have e : termOf base es x = (0, false) := by simp [termOf, hx, List.getElem?_eq_none (by omega : es.length ≤ (x - base).toNat)]
      rw [e]
      exact term_high lb base es sz a cap x w h h0 hx hX (by omega) hl
  · have e : termOf base es x = (0, false) := by simp [termOf, hx]
    rw [e]
    exact term_low lb base es sz a cap x w h (by omega)

set_option maxHeartbeats 400000 in
theorem zzterm_all (lb : Nat) (base : Int) (es : List (Int × Int)) (sz : Int) (a : Option Addr) (cap : Nat) (x : Int) (t : Int) (b : Bool) (w : World) (h : Log w lb base es sz a cap) (h0 : 0 ≤ base) (hX : x ≤ 18446744073709551615) (hl : es.length ≤ 1048576) (ht : (termOf base es x) = (t, b)) :
    Calls Trym.prog 22 #[.pointer (some ⟨lb, 0, none⟩), .int .u64 x] w (TermPost w t b) := by
  have HT : Hid (Calls Trym.prog 26 #[.pointer (some ⟨lb, 0, none⟩), .int .u64 x] w (TermPost w t b)) := by
    have := term_all lb base es sz a cap x w h h0 hX hl
    rw [ht] at this
    exact this
  clear ht
  go_enter Trym.func22, Trym.ntmps22
  go_wp2_with fail
  refine HT.out.mono ?_
  rintro e w' ⟨rfl, n, rfl⟩
  go_wp2
  go_ret2
  exact ⟨rfl, n, rfl⟩

/-- 'ZZRef': a new entry; one block is laid. -/
def RefPost (w : World) (t n : Int) (e : Ending) (w' : World) : Prop := e = .returned (.agg #[.int .u64 t, .int .i64 0, .int .u32 n, .int .u32 0]) ∧ w' = w.alloc (.cells #[.int .u64 t, .int .i64 0, .int .u32 n, .int .u32 0] 43)

set_option maxHeartbeats 400000 in
theorem ref_any (t n : Int) (w : World) : Calls Trym.prog 21 #[.int .u64 t, .int .u32 n] w (RefPost w t n) := by
  go_enter Trym.func21, Trym.ntmps21
  go_wp2
  exact bodyPost_ret (v := .agg #[.int .u64 t, .int .i64 0, .int .u32 n, .int .u32 0]) (by simp [results, Trym.results21, go_sem]) rfl ⟨rfl, rfl⟩

end Go.Proofs.Qxb6001495aMods.L
