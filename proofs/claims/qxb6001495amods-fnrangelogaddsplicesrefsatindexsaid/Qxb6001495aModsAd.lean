import Derived.Test.Qxb6001495aModsLg
import Derived.Deep.DeepCutAuto
namespace Go.Proofs.Qxb6001495aMods.L
open Go.RowKit

theorem size43 (W : World) : (Go.sizeOf 43).run Trym.prog W = .ok 4 W := by kernel_rfl
theorem slice32 : Trym.prog.underlying 32 = some (.slice (Trym.prog.elem 32)) := by kernel_rfl
theorem elem32 : Trym.prog.elem 32 = 43 := by kernel_rfl

theorem sumN_append (a b : List (Int × Int)) : sumN (a ++ b) = sumN a + sumN b := by
  induction a with
  | nil => simp [sumN]
  | cons p r ih => simp [sumN, ih]; omega

/-- lengths are lengths -/
def Lens (es : List (Int × Int)) : Prop := ∀ p ∈ es, 0 ≤ p.2 ∧ p.2 ≤ 4294967295

theorem Lens.take {es : List (Int × Int)} (h : Lens es) (k : Nat) : Lens (es.take k) := fun p hp => h p (List.mem_of_mem_take hp)
theorem Lens.drop {es : List (Int × Int)} (h : Lens es) (k : Nat) : Lens (es.drop k) := fun p hp => h p (List.mem_of_mem_drop hp)
theorem Lens.append {a b : List (Int × Int)} (h : Lens a) (k : Lens b) : Lens (a ++ b) := fun p hp => by
  rcases List.mem_append.1 hp with h1 | h1
  · exact h p h1
  · exact k p h1

theorem Lens.bound {es : List (Int × Int)} (h : Lens es) : 0 ≤ sumN es ∧ sumN es ≤ 4294967295 * es.length := by
  induction es with
  | nil => simp [sumN]
  | cons p r ih =>
    have h1 := h p (by simp)
    have h2 := ih (fun q hq => h q (by simp [hq]))
    simp only [sumN, List.length_cons]
    omega

/-- The log and the refs that are to be added, in the midst of 'add'. -/
structure Mid (w : World) (lb : Nat) (base : Int) (es : List (Int × Int)) (sz : Int) (a : Option Addr) (cap : Nat) (rb : Nat) (rs : List (Int × Int)) (rc : Nat) (wr : World) : Prop where
  log : Log wr lb base es sz a cap
  refs : wr.ownsRow lb 43 4 (.slice (some ⟨rb, 0, none⟩) rs.length rc) rs.length (cellsL rs)
  bel : Below lb w wr

section
variable {w : World} {lb : Nat} {base : Int} {es : List (Int × Int)} {sz : Int} {a : Option Addr} {cap : Nat} {rb : Nat} {rs : List (Int × Int)} {rc : Nat} {wr : World}

theorem row_ne {w : World} {base : Nat} {e : TypeId} {size : Nat} {v : Value} {n : Nat} {xs : List Value} (h : w.ownsRow base e size v n xs) {b : Nat} {o : Obj} (hb : w.heap[b]? = some o) (ho : ∀ cur, o ≠ .cells cur e (0, 0)) : v.ownBlock ≠ some b := by
  rcases h.2 with ⟨rfl, _⟩ | ⟨g, cap, cur, rfl, _, hg, _⟩
  · simp [Value.ownBlock]
  · intro e'
    simp [Value.ownBlock] at e'
    subst e'
    rw [hg] at hb
    cases hb
    exact ho cur rfl

theorem Log.row_ne (h : Log wr lb base es sz a cap) : (Value.slice a es.length cap).ownBlock ≠ some lb := L.row_ne h.row h.box (fun cur e => by cases e)

theorem Log.alloc (h : Log wr lb base es sz a cap) (o : Obj) : Log (wr.alloc o) lb base es sz a cap := ⟨(heap_alloc_old _ _ (lt_of_block h.box)).trans h.box, h.row.alloc o⟩
theorem Log.drewN (h : Log wr lb base es sz a cap) (n : Nat) : Log (wr.drewN n) lb base es sz a cap := ⟨h.box, h.row⟩
theorem Log.drew (h : Log wr lb base es sz a cap) : Log wr.drew lb base es sz a cap := ⟨h.box, h.row⟩
theorem Log.setSize (h : Log wr lb base es sz a cap) (sz' : Int) : Log (wr.setCell ⟨lb, 6, none⟩ (.int .u64 sz')) lb base es sz' a cap :=
  ⟨heap_setCell_same wr lb 6 _ 49 _ h.box, ownsRow_setCell_other h.row (a := ⟨lb, 6, none⟩) h.row_ne _⟩
theorem Log.setBase (h : Log wr lb base es sz a cap) (b' : Int) : Log (wr.setCell ⟨lb, 4, none⟩ (.int .u64 b')) lb b' es sz a cap :=
  ⟨heap_setCell_same wr lb 4 _ 49 _ h.box, ownsRow_setCell_other h.row (a := ⟨lb, 4, none⟩) h.row_ne _⟩

theorem Mid.refs_ne (h : Mid w lb base es sz a cap rb rs rc wr) : (Value.slice (some ⟨rb, 0, none⟩) rs.length rc).ownBlock ≠ some lb := L.row_ne h.refs h.log.box (fun cur e => by cases e)
theorem Mid.alloc (h : Mid w lb base es sz a cap rb rs rc wr) (o : Obj) : Mid w lb base es sz a cap rb rs rc (wr.alloc o) := ⟨h.log.alloc o, h.refs.alloc o, h.bel.alloc (Nat.le_of_lt (lt_of_block h.log.box)) o⟩
theorem Mid.drew (h : Mid w lb base es sz a cap rb rs rc wr) : Mid w lb base es sz a cap rb rs rc wr.drew := ⟨h.log.drew, h.refs, h.bel.drew⟩
theorem Mid.setSize (h : Mid w lb base es sz a cap rb rs rc wr) (sz' : Int) : Mid w lb base es sz' a cap rb rs rc (wr.setCell ⟨lb, 6, none⟩ (.int .u64 sz')) :=
  ⟨h.log.setSize sz', ownsRow_setCell_other h.refs (a := ⟨lb, 6, none⟩) h.refs_ne _, h.bel.setCell (p := ⟨lb, 6, none⟩) (Nat.le_refl _) _⟩
theorem Mid.setBase (h : Mid w lb base es sz a cap rb rs rc wr) (b' : Int) : Mid w lb b' es sz a cap rb rs rc (wr.setCell ⟨lb, 4, none⟩ (.int .u64 b')) :=
  ⟨h.log.setBase b', ownsRow_setCell_other h.refs (a := ⟨lb, 4, none⟩) h.refs_ne _, h.bel.setCell (p := ⟨lb, 4, none⟩) (Nat.le_refl _) _⟩
end

theorem run_cut_h (a : Option Addr) (len cap n : Nat) (h : n ≤ cap) (ha : a = none ∨ ∃ g, a = some ⟨g, 0, none⟩) (W : World) : (Instr.slice 32 (.slice a len cap) none (some (.int .i64 n)) none).run Trym.prog W = .ok (.slice a n cap) W := by
  rw [run_slice_h W 32 a len cap slice32 .i64 n (by omega) (by omega), elem32, size43]
  rcases ha with rfl | ⟨g, rfl⟩ <;> simp [Result.andThen, sliced, Addr.add_lit]
theorem run_cut_l (a : Option Addr) (len cap n : Nat) (h : n ≤ len) (W : World) : (Instr.slice 32 (.slice a len cap) (some (.int .i64 n)) none none).run Trym.prog W = .ok (.slice (if cap = n then a else a.map (·.add (n * 4))) (len - n) (cap - n)) W := by
  rw [run_slice_l W 32 a len cap slice32 .i64 n (by omega) (by omega), elem32, size43]
  simp [Result.andThen, sliced]

theorem Log.addr {w : World} {lb : Nat} {base : Int} {es : List (Int × Int)} {sz : Int} {a : Option Addr} {cap : Nat} (h : Log w lb base es sz a cap) : a = none ∨ ∃ g, a = some ⟨g, 0, none⟩ := by
  rcases h.row.2 with ⟨h, _⟩ | ⟨g, c, cur, hv, _⟩
  · simp only [Value.slice.injEq] at h
    exact .inl h.1
  · simp only [Value.slice.injEq] at hv
    exact .inr ⟨g, hv.1⟩
theorem Log.lencap {w : World} {lb : Nat} {base : Int} {es : List (Int × Int)} {sz : Int} {a : Option Addr} {cap : Nat} (h : Log w lb base es sz a cap) : es.length ≤ cap := by
  rcases h.row.2 with ⟨h, _⟩ | ⟨g, c, cur, hv, _, _, hc, _⟩
  · simp only [Value.slice.injEq] at h
    omega
  · simp only [Value.slice.injEq] at hv
    obtain ⟨_, _, rfl⟩ := hv
    exact hc

theorem sum_step {es : List (Int × Int)} (h : Lens es) (keep k : Nat) (hi : keep + k < es.length) :
    0 ≤ es[keep + k].2 ∧ es[keep + k].2 ≤ 4294967295 ∧ (es.length ≤ 262144 → es[keep + k].2 ≤ sumN es - sumN ((es.drop keep).take k) ∧ sumN es - sumN ((es.drop keep).take k) ≤ 1125899906842624) ∧
    sumN es - sumN ((es.drop keep).take k) - es[keep + k].2 = sumN es - sumN ((es.drop keep).take (k + 1)) := by
  have h1 := h es[keep + k] (List.getElem_mem _)
  have e1 : (es.drop keep).take (k + 1) = (es.drop keep).take k ++ [es[keep + k]] := by
    rw [List.take_succ_eq_append_getElem (by simp; omega)]
    simp
  have e2 : sumN ((es.drop keep).take (k + 1)) = sumN ((es.drop keep).take k) + es[keep + k].2 := by
    rw [e1, sumN_append]
    simp [sumN]
  have e3 : sumN es = sumN (es.take keep) + (sumN ((es.drop keep).take (k + 1)) + sumN ((es.drop keep).drop (k + 1))) := by
    rw [← sumN_append, List.take_append_drop, ← sumN_append, List.take_append_drop]
  have b1 := (h.take keep).bound
  have b2 := ((h.drop keep).drop (k + 1)).bound
  have b3 := h.bound
  have b4 := ((h.drop keep).take k).bound
  refine ⟨h1.1, h1.2, fun hl => ⟨by omega, by omega⟩, by omega⟩

theorem info43 : (Trym.prog.info? 43).map (fun i => (i.zero, i.size, i.bytes)) = some (some (.agg #[.int .u64 0, .int .i64 0, .int .u32 0, .int .u32 0]), 4, 24) := by kernel_rfl

theorem cellsL_oneCell (es : List (Int × Int)) : ∀ u ∈ cellsL es, u.oneCell' = true := by
  intro u hu
  obtain ⟨p, _, hp⟩ := List.mem_flatMap.1 hu
  simp [ent] at hp
  rcases hp with rfl | rfl | rfl | rfl <;> rfl

/-- The first entries as a slice of their own. -/
theorem Log.firsts {w : World} {lb : Nat} {base : Int} {es : List (Int × Int)} {sz : Int} {a : Option Addr} {cap : Nat} (h : Log w lb base es sz a cap) (k : Nat) (hk : k ≤ es.length) : w.ownsRow lb 43 4 (.slice a k cap) k (cellsL (es.take k)) := by
  refine ⟨by rw [cellsL_length]; simp; omega, ?_⟩
  rcases h.row.2 with ⟨hv, h0⟩ | ⟨g, c, cur, hv, hb, hg, hn, hm, hs, ht⟩
  · simp only [Value.slice.injEq] at hv
    obtain ⟨rfl, _, rfl⟩ := hv
    have : k = 0 := by omega
    subst this
    exact .inl ⟨rfl, rfl⟩
  · simp only [Value.slice.injEq] at hv
    obtain ⟨rfl, _, rfl⟩ := hv
    refine .inr ⟨g, cap, cur, rfl, hb, hg, by omega, hm, hs, ?_⟩
    rw [cellsL_take, ← ht, List.take_take]
    congr 1
    omega

theorem slice_shape {w : World} {base : Nat} {e : TypeId} {size : Nat} {v : Value} {n : Nat} {xs : List Value} (h : w.ownsRow base e size v n xs) : ∃ a cap, v = .slice a n cap := by
  rcases h.2 with ⟨rfl, rfl⟩ | ⟨g, c, cur, rfl, _⟩
  · exact ⟨none, 0, rfl⟩
  · exact ⟨_, _, rfl⟩

theorem own_same (a : Option Addr) (n m cap : Nat) : (Value.slice a n cap).ownBlock = (Value.slice a m cap).ownBlock := by cases a <;> rfl

theorem Mid.box_grown {w : World} {lb : Nat} {base : Int} {es : List (Int × Int)} {sz : Int} {a : Option Addr} {cap : Nat} {rb : Nat} {rs : List (Int × Int)} {rc : Nat} {wr w1 : World} {keep : Nat} (h : Mid w lb base es sz a cap rb rs rc wr) (hg : wr.grownBy w1 (Value.slice a keep cap).ownBlock) :
    w1.heap[lb]? = some (.cells #[.int .u64 0, .int .u64 0, .int .u64 0, .bool false, .int .u64 base, .slice a es.length cap, .int .u64 sz, .slice none 0 0] 49 (0, 0)) :=
  (hg.block lb (lt_of_block h.log.box) (fun e => h.log.row_ne ((own_same a _ _ cap).trans e.symm))).trans h.log.box

/-- Behind the append and the store of the new slice. -/
theorem Mid.spliced {w : World} {lb : Nat} {base : Int} {es : List (Int × Int)} {sz : Int} {a : Option Addr} {cap : Nat} {rb : Nat} {rs : List (Int × Int)} {rc : Nat} {wr w1 : World} {keep : Nat} {a' : Option Addr} {cap' : Nat} (h : Mid w lb base es sz a cap rb rs rc wr)
    (hne : (Value.slice a es.length cap).ownBlock ≠ some rb) (hown : w1.ownsRow lb 43 4 (.slice a' (keep + rs.length) cap') (keep + rs.length) (cellsL (es.take keep) ++ cellsL rs)) (hg : wr.grownBy w1 (Value.slice a keep cap).ownBlock) (hk : keep ≤ es.length) :
    Mid w lb base (es.take keep ++ rs) sz a' cap' rb rs rc (w1.setCell ⟨lb, 5, none⟩ (.slice a' (keep + rs.length) cap')) := by
  have hbox := h.box_grown hg
  have hl : (es.take keep ++ rs).length = keep + rs.length := by simp; omega
  have hrow : w1.ownsRow lb 43 4 (.slice a' (es.take keep ++ rs).length cap') (es.take keep ++ rs).length (cellsL (es.take keep ++ rs)) := by rw [hl, cellsL_append]; exact hown
  have hrefs : w1.ownsRow lb 43 4 (.slice (some ⟨rb, 0, none⟩) rs.length rc) rs.length (cellsL rs) := h.refs.kept hg (.inr (fun e => hne ((own_same a _ keep cap).trans e.symm)))
  refine ⟨⟨?_, ?_⟩, ?_, ?_⟩
  · rw [hl]
    exact heap_setCell_same w1 lb 5 _ 49 _ hbox
  · exact ownsRow_setCell_other hrow (a := ⟨lb, 5, none⟩) (L.row_ne hrow hbox (fun cur e => by cases e)) _
  · exact ownsRow_setCell_other hrefs (a := ⟨lb, 5, none⟩) (L.row_ne hrefs hbox (fun cur e => by cases e)) _
  · have hb : Below lb w w1 := h.bel.grown hg (Nat.le_of_lt (lt_of_block h.log.box)) (fun k e => (h.log.row.lt k ((own_same a _ _ cap).trans e)).1)
    exact hb.setCell (p := ⟨lb, 5, none⟩) (Nat.le_refl _) _

theorem sum_left {es : List (Int × Int)} {keep k : Nat} (h : es.length ≤ keep + k) : sumN es - sumN ((es.drop keep).take k) = sumN (es.take keep) := by
  rw [List.take_of_length_le (by simp; omega)]
  have : sumN es = sumN (es.take keep) + sumN (es.drop keep) := by rw [← sumN_append, List.take_append_drop]
  omega

theorem sum_add {rs : List (Int × Int)} (h : Lens rs) (j : Nat) (hj : j < rs.length) :
    0 ≤ rs[j].2 ∧ rs[j].2 ≤ 4294967295 ∧ (rs.length ≤ 262144 → 0 ≤ sumN (rs.take j) ∧ sumN (rs.take j) ≤ 1125899906842624) ∧ sumN (rs.take (j + 1)) = sumN (rs.take j) + rs[j].2 := by
  have h1 := h rs[j] (List.getElem_mem _)
  have e1 : rs.take (j + 1) = rs.take j ++ [rs[j]] := List.take_succ_eq_append_getElem hj
  have e2 : sumN (rs.take (j + 1)) = sumN (rs.take j) + rs[j].2 := by
    rw [e1, sumN_append]
    simp [sumN]
  have b1 := (h.take j).bound
  refine ⟨h1.1, h1.2, fun hl => ⟨b1.1, ?_⟩, e2⟩
  have b2 := b1.2
  have : ((rs.take j).length : Int) ≤ 262144 := by simp; omega
  omega

theorem refs_at {w : World} {lb rb : Nat} {rs : List (Int × Int)} {rc : Nat} (hr : w.ownsRow lb 43 4 (.slice (some ⟨rb, 0, none⟩) rs.length rc) rs.length (cellsL rs)) {i : Nat} (hi : i < rs.length) :
    w.cell? ⟨rb, i * 4, none⟩ = some (.int .u64 rs[i].1) ∧ w.cell? ⟨rb, i * 4 + 1, none⟩ = some (.int .i64 0) ∧ w.cell? ⟨rb, i * 4 + 2, none⟩ = some (.int .u32 rs[i].2) ∧ w.cell? ⟨rb, i * 4 + 3, none⟩ = some (.int .u32 0) := by
  refine ⟨?_, ?_, ?_, ?_⟩
  · rw [hr.cellAt _ (by omega)]; exact cellsL_at rs i hi 0 (by omega)
  · rw [hr.cellAt _ (by omega)]; exact cellsL_at rs i hi 1 (by omega)
  · rw [hr.cellAt _ (by omega)]; exact cellsL_at rs i hi 2 (by omega)
  · rw [hr.cellAt _ (by omega)]; exact cellsL_at rs i hi 3 (by omega)

def AddPost (w : World) (lb : Nat) (base : Int) (es : List (Int × Int)) (e : Ending) (w' : World) : Prop :=
  e = .returned (.tuple #[]) ∧ ∃ a cap, Log w' lb base es (sumN es) a cap ∧ Below lb w w'

/-- Which entries stay, and from which index the log then begins. -/
def Case (base : Int) (es : List (Int × Int)) (x : Int) (keep : Nat) (base' : Int) : Prop :=
  (0 < es.length ∧ base < x ∧ x - base = (keep : Int) ∧ base' = base) ∨ ((es.length = 0 ∨ x ≤ base) ∧ keep = 0 ∧ base' = x)

theorem run_cut_0 (a : Option Addr) (len cap : Nat) (ha : a = none ∨ ∃ g, a = some ⟨g, 0, none⟩) (W : World) : (Instr.slice 32 (.slice a len cap) (some (.int .i64 0)) none none).run Trym.prog W = .ok (.slice a len cap) W := by
  rw [run_slice_l W 32 a len cap slice32 .i64 0 (by omega) (by omega), elem32, size43]
  rcases ha with rfl | ⟨g, rfl⟩ <;> simp [Result.andThen, sliced, Addr.add_lit]

theorem sum_step0 {es : List (Int × Int)} (h : Lens es) (k : Nat) (hi : k < es.length) :
    0 ≤ es[k].2 ∧ es[k].2 ≤ 4294967295 ∧ (es.length ≤ 262144 → es[k].2 ≤ sumN es - sumN (es.take k) ∧ sumN es - sumN (es.take k) ≤ 1125899906842624) ∧
    sumN es - sumN (es.take k) - es[k].2 = sumN es - sumN (es.take (k + 1)) := by
  have := sum_step h 0 k (by omega)
  simpa using this

theorem Mid.spliced0 {w : World} {lb : Nat} {base : Int} {es : List (Int × Int)} {sz : Int} {a : Option Addr} {cap : Nat} {rb : Nat} {rs : List (Int × Int)} {rc : Nat} {wr w1 : World} {a' : Option Addr} {cap' : Nat} (h : Mid w lb base es sz a cap rb rs rc wr)
    (hne : (Value.slice a es.length cap).ownBlock ≠ some rb) (hown : w1.ownsRow lb 43 4 (.slice a' rs.length cap') rs.length (cellsL [] ++ cellsL rs)) (hg : wr.grownBy w1 (Value.slice a 0 cap).ownBlock) :
    Mid w lb base rs sz a' cap' rb rs rc (w1.setCell ⟨lb, 5, none⟩ (.slice a' rs.length cap')) := by
  have hown' : w1.ownsRow lb 43 4 (.slice a' (0 + rs.length) cap') (0 + rs.length) (cellsL (es.take 0) ++ cellsL rs) := by simpa using hown
  have := h.spliced hne hown' hg (Nat.zero_le _)
  simpa using this

set_option maxHeartbeats 2000000 in
theorem add_keep (lb : Nat) (base : Int) (es : List (Int × Int)) (a : Option Addr) (cap : Nat) (rb : Nat) (rs : List (Int × Int)) (rc : Nat) (x : Int) (keep : Nat) (w : World)
    (h : Mid w lb base es (sumN es) a cap rb rs rc w) (hne : (Value.slice a es.length cap).ownBlock ≠ some rb) (hle : Lens es) (hlr : Lens rs) (hl : es.length ≤ 262144) (hl' : rs.length ≤ 262144)
    (h0 : 0 ≤ base) (hX : x ≤ 18446744073709551615) (hlt : base < x) (hk : x - base = (keep : Int)) (hkl : keep ≤ es.length) :
    Calls Trym.prog 24 #[.pointer (some ⟨lb, 0, none⟩), .int .u64 x, .slice (some ⟨rb, 0, none⟩) rs.length rc] w (AddPost w lb base (es.take keep ++ rs)) := by
  have HNE : Hid ((Value.slice a es.length cap).ownBlock ≠ some rb) := hne
  clear hne
  have hs1 := run_cut_l a es.length cap keep hkl
  have HS2 : Hid (∀ W : World, (Instr.slice 32 (.slice a es.length cap) none (some (.int .i64 keep)) none).run Trym.prog W = .ok (.slice a keep cap) W) := run_cut_h a es.length cap keep (Nat.le_trans hkl h.log.lencap) h.log.addr
  obtain ⟨c3, c4, c5, c6⟩ := h.log.cells
  have hkI : (keep : Int) ≤ (es.length : Int) := by omega
  have H : Hid (Mid w lb base es (sumN es) a cap rb rs rc w) := h
  clear h
  obtain ⟨a2, ha2⟩ : ∃ a2, a2 = (if cap = keep then a else a.map (·.add (keep * 4))) := ⟨_, rfl⟩
  simp only [← ha2] at hs1
  have HA : Hid (a2 = (if cap = keep then a else a.map (·.add (keep * 4)))) := ha2
  clear ha2
  obtain ⟨L, hL⟩ : ∃ L, L = es.length := ⟨_, rfl⟩
  rw [← hL] at hs1 HS2 c5 hl hkI hkl
  have HL : Hid (L = es.length) := hL
  obtain ⟨dl, hdl⟩ : ∃ dl, dl = L - keep := ⟨_, rfl⟩
  obtain ⟨c2, hc2⟩ : ∃ c2, c2 = cap - keep := ⟨_, rfl⟩
  rw [← hdl, ← hc2] at hs1
  have HD : Hid (dl = L - keep) := hdl
  have hdl' : dl ≤ 262144 := by omega
  have hnz : ((L : Int) != 0) = true := by rw [bne_iff_ne]; omega
  clear hL hdl hc2
  go_enter Trym.func24, Trym.ntmps24
  go_wp2
  go_loopw [43] (fun i wr => ∃ k : Nat, k ≤ dl ∧ i = .int .i64 k ∧ Mid w lb base es (sumN es - sumN ((es.drop keep).take k)) a cap rb rs rc wr) (fun i _ => dl - (intOf i).toNat)
  case atStart => exact ⟨0, Nat.zero_le _, rfl, by simpa [sumN] using H.out⟩
  case round =>
    obtain ⟨k, hkd, rfl, hm⟩ := hrel
    clear c3 c4 c5 c6 hs1
    by_cases hlt' : k < dl
    · obtain ⟨g, hag, e0, e1, e2, e3⟩ := hm.log.at (i := keep + k) (by have := HD.out; have := HL.out; omega)
      have ha2 : a2 = some ⟨g, keep * 4, none⟩ := by
        rw [HA.out, if_neg (by have := hm.log.lencap; have := HD.out; have := HL.out; omega), hag]
        simp [Addr.add_lit]
      rw [Nat.add_mul] at e0 e1 e2 e3
      obtain ⟨c3, c4, c5, c6⟩ := hm.log.cells
      have f6 := frozen_of_row wr lb 6 _ _ hm.log.box
      have hlb := lt_of_block hm.log.box
      have hbd := sum_step hle keep k (by have := HD.out; have := HL.out; omega)
      obtain ⟨t, ht⟩ : ∃ t, t = (es[keep + k]'(by have := HD.out; have := HL.out; omega)).1 := ⟨_, rfl⟩
      obtain ⟨n, hn⟩ : ∃ n, n = (es[keep + k]'(by have := HD.out; have := HL.out; omega)).2 := ⟨_, rfl⟩
      obtain ⟨S, hS⟩ : ∃ S, S = sumN es - sumN ((es.drop keep).take k) := ⟨_, rfl⟩
      rw [← ht] at e0
      rw [← hn] at e2 hbd
      rw [← hS] at c6 hbd hm
      have HS : Hid (S - n = sumN es - sumN ((es.drop keep).take (k + 1))) := hbd.2.2.2
      have hb1 : 0 ≤ n := hbd.1
      have hb2 : n ≤ 4294967295 := hbd.2.1
      have hb3 : n ≤ S ∧ S ≤ 1125899906842624 := hbd.2.2.1 (by have := HL.out; omega)
      have HMm : Hid (Mid w lb base es S a cap rb rs rc wr) := hm
      subst ha2
      clear ht hn hS hbd hm c3 c4 c5
      go_wp2
      go_region
      all_goals
        go_wp2
        go_roundw
        case rel => exact ⟨k + 1, by omega, by go_num, by rw [← HS.out]; exact ((HMm.out.setSize (S - n)).alloc _).drew⟩
        case measure => simp [intOf]; omega
    · have hkd' : k = dl := by omega
      subst hkd'
      have hs2 := HS2.out
      obtain ⟨c3, c4, c5, c6⟩ := hm.log.cells
      rw [← HL.out] at c5
      have f5 := frozen_of_row wr lb 5 _ _ hm.log.box
      have hlb := lt_of_block hm.log.box
      obtain ⟨i0, hi, hz0, hz1, hz2⟩ := info_parts info43
      have hrow := hm.log.firsts keep (by have := HL.out; omega)
      have hrefs := hm.refs
      have HMm : Hid (Mid w lb base es (sumN es - sumN ((es.drop keep).take k)) a cap rb rs rc wr) := hm
      clear hm c3 c4 c6
      go_wp2_with (first
        | (at_builtin; refine wpList_append_own _ rfl _ _ 32 rfl lb 43 i0 (.agg #[.int .u64 0, .int .i64 0, .int .u32 0, .int .u32 0]) 4 24 Trym.underlying32 hi hz0 hz1 hz2 rfl (by decide) _ _ _ rfl hrow ⟨rb, 0, none⟩ rs.length rc (cellsL rs) rfl (cellsL_length rs) (hrefs.cells rfl) (cellsL_oneCell rs) (by unfold maxLen; omega) (by omega) (by omega) ?_))
      intro v' w1 hown1 hg1 _
      obtain ⟨a', cap', rfl⟩ := slice_shape hown1
      have hsp := HMm.out.spliced HNE.out hown1 hg1 (by have := HL.out; omega)
      have hbox1 := HMm.out.box_grown hg1
      obtain ⟨d5⟩ : Nonempty (w1.cell? ⟨lb, 5, none⟩ = some (.slice a es.length cap)) := ⟨by rw [cell_of_row w1 lb _ _ _ _ hbox1]; rfl⟩
      have f5' := frozen_of_row w1 lb 5 _ _ hbox1
      have HSP : Hid (Mid w lb base (es.take keep ++ rs) (sumN es - sumN ((es.drop keep).take k)) a' cap' rb rs rc (w1.setCell ⟨lb, 5, none⟩ (.slice a' (keep + rs.length) cap'))) := hsp
      have hS0 : sumN es - sumN ((es.drop keep).take k) = sumN (es.take keep) := sum_left (by have := HD.out; have := HL.out; omega)
      rw [hS0] at HSP
      clear hS0 hsp hown1 hg1 hbox1 hrow hrefs c5 f5 hs2 HMm
      go_wp2
      go_loopw [71] (fun i wr => ∃ j : Nat, j ≤ rs.length ∧ i = .int .i64 j ∧ Mid w lb base (es.take keep ++ rs) (sumN (es.take keep) + sumN (rs.take j)) a' cap' rb rs rc wr) (fun i _ => rs.length - (intOf i).toNat)
      case atStart => exact ⟨0, Nat.zero_le _, rfl, by simpa [sumN] using HSP.out⟩
      case round =>
        obtain ⟨j, hj, rfl, hm⟩ := hrel
        clear HSP d5 f5'
        by_cases hjl : j < rs.length
        · obtain ⟨e0, e1, e2, e3⟩ := refs_at hm.refs hjl
          obtain ⟨c3, c4, c5, c6⟩ := hm.log.cells
          have f6 := frozen_of_row wr lb 6 _ _ hm.log.box
          have hlb := lt_of_block hm.log.box
          have hbd := sum_add hlr j hjl
          have hbt := (hle.take keep).bound
          have hbt2 : (es.take keep).length ≤ 262144 := by have := HL.out; simp; omega
          obtain ⟨t, ht⟩ : ∃ t, t = rs[j].1 := ⟨_, rfl⟩
          obtain ⟨n, hn⟩ : ∃ n, n = rs[j].2 := ⟨_, rfl⟩
          obtain ⟨S, hS⟩ : ∃ S, S = sumN (es.take keep) + sumN (rs.take j) := ⟨_, rfl⟩
          rw [← ht] at e0
          rw [← hn] at e2 hbd
          rw [← hS] at c6 hm
          have HS : Hid (S + n = sumN (es.take keep) + sumN (rs.take (j + 1))) := by rw [hS, hbd.2.2.2]; exact Int.add_assoc _ _ _
          have hb1 : 0 ≤ n := hbd.1
          have hb2 : n ≤ 4294967295 := hbd.2.1
          have hb3 : 0 ≤ S ∧ S ≤ 4503599627370496 := by have := hbd.2.2.1; omega
          have HMm : Hid (Mid w lb base (es.take keep ++ rs) S a' cap' rb rs rc wr) := hm
          clear ht hn hS hbd hbt hbt2 hm c3 c4 c5
          go_wp2
          go_region
          all_goals
            go_wp2
            go_roundw
            case rel => exact ⟨j + 1, by omega, by go_num, by rw [← HS.out]; exact ((HMm.out.setSize (S + n)).alloc _).drew⟩
            case measure => simp [intOf]; omega
        · have hjl' : j = rs.length := by omega
          subst hjl'
          go_wp2
          go_end0
          refine ⟨rfl, a', cap', ?_, hm.bel⟩
          have := hm.log
          rw [List.take_length, ← sumN_append] at this
          exact this

set_option maxHeartbeats 2000000 in
theorem add_new (lb : Nat) (base : Int) (es : List (Int × Int)) (a : Option Addr) (cap : Nat) (rb : Nat) (rs : List (Int × Int)) (rc : Nat) (x : Int) (w : World)
    (h : Mid w lb base es (sumN es) a cap rb rs rc w) (hne : (Value.slice a es.length cap).ownBlock ≠ some rb) (hle : Lens es) (hlr : Lens rs) (hl : es.length ≤ 262144) (hl' : rs.length ≤ 262144)
    (hcase : es.length = 0 ∨ x ≤ base) :
    Calls Trym.prog 24 #[.pointer (some ⟨lb, 0, none⟩), .int .u64 x, .slice (some ⟨rb, 0, none⟩) rs.length rc] w (AddPost w lb x rs) := by
  have HNE : Hid ((Value.slice a es.length cap).ownBlock ≠ some rb) := hne
  clear hne
  have hs1 := run_cut_0 a es.length cap h.log.addr
  have HS2 : Hid (∀ W : World, (Instr.slice 32 (.slice a es.length cap) none (some (.int .i64 0)) none).run Trym.prog W = .ok (.slice a 0 cap) W) := run_cut_h a es.length cap 0 (Nat.zero_le _) h.log.addr
  obtain ⟨c3, c4, c5, c6⟩ := h.log.cells
  have f4 := frozen_of_row w lb 4 _ _ h.log.box
  have H : Hid (Mid w lb x es (sumN es) a cap rb rs rc (w.setCell ⟨lb, 4, none⟩ (.int .u64 x))) := h.setBase x
  clear h
  obtain ⟨L, hL⟩ : ∃ L, L = es.length := ⟨_, rfl⟩
  rw [← hL] at hs1 HS2 c5 hl hcase
  have HL : Hid (L = es.length) := hL
  clear hL
  by_cases hL0 : L = 0
  case' pos => have hnz : ((L : Int) != 0) = false := by simp [hL0]
  case' neg =>
    have hnz : ((L : Int) != 0) = true := by rw [bne_iff_ne]; omega
    have hd : decide (base < x) = false := by simp; omega
  all_goals
    clear hcase hL0
    go_enter Trym.func24, Trym.ntmps24
    go_wp2
    go_loopw [43] (fun i wr => ∃ k : Nat, k ≤ L ∧ i = .int .i64 k ∧ Mid w lb x es (sumN es - sumN (es.take k)) a cap rb rs rc wr) (fun i _ => L - (intOf i).toNat)
    case atStart => exact ⟨0, Nat.zero_le _, rfl, by simpa [sumN] using H.out⟩
    case round =>
      obtain ⟨k, hkd, rfl, hm⟩ := hrel
      clear c3 c4 c5 c6 hs1
      by_cases hlt' : k < L
      · obtain ⟨g, hag, e0, e1, e2, e3⟩ := hm.log.at (i := k) (by have := HL.out; omega)
        obtain ⟨c3, c4, c5, c6⟩ := hm.log.cells
        have f6 := frozen_of_row wr lb 6 _ _ hm.log.box
        have hlb := lt_of_block hm.log.box
        have hbd := sum_step0 hle k (by have := HL.out; omega)
        obtain ⟨t, ht⟩ : ∃ t, t = (es[k]'(by have := HL.out; omega)).1 := ⟨_, rfl⟩
        obtain ⟨n, hn⟩ : ∃ n, n = (es[k]'(by have := HL.out; omega)).2 := ⟨_, rfl⟩
        obtain ⟨S, hS⟩ : ∃ S, S = sumN es - sumN (es.take k) := ⟨_, rfl⟩
        rw [← ht] at e0
        rw [← hn] at e2 hbd
        rw [← hS] at c6 hbd hm
        have HS : Hid (S - n = sumN es - sumN (es.take (k + 1))) := hbd.2.2.2
        have hb1 : 0 ≤ n := hbd.1
        have hb2 : n ≤ 4294967295 := hbd.2.1
        have hb3 : n ≤ S ∧ S ≤ 1125899906842624 := hbd.2.2.1 (by have := HL.out; omega)
        have HMm : Hid (Mid w lb x es S a cap rb rs rc wr) := hm
        subst hag
        clear ht hn hS hbd hm c3 c4 c5
        go_wp2
        go_region
        all_goals
          go_wp2
          go_roundw
          case rel => exact ⟨k + 1, by omega, by go_num, by rw [← HS.out]; exact ((HMm.out.setSize (S - n)).alloc _).drew⟩
          case measure => simp [intOf]; omega
      · have hkd' : k = L := by omega
        subst hkd'
        have hs2 := HS2.out
        obtain ⟨c3, c4, c5, c6⟩ := hm.log.cells
        rw [← HL.out] at c5
        have f5 := frozen_of_row wr lb 5 _ _ hm.log.box
        have hlb := lt_of_block hm.log.box
        obtain ⟨i0, hi, hz0, hz1, hz2⟩ := info_parts info43
        have hrow := hm.log.firsts 0 (Nat.zero_le _)
        have hrefs := hm.refs
        have HMm : Hid (Mid w lb x es (sumN es - sumN (es.take k)) a cap rb rs rc wr) := hm
        clear hm c3 c4 c6
        go_wp2_with (first
          | (at_builtin; refine wpList_append_own _ rfl _ _ 32 rfl lb 43 i0 (.agg #[.int .u64 0, .int .i64 0, .int .u32 0, .int .u32 0]) 4 24 Trym.underlying32 hi hz0 hz1 hz2 rfl (by decide) _ _ _ rfl hrow ⟨rb, 0, none⟩ rs.length rc (cellsL rs) rfl (cellsL_length rs) (hrefs.cells rfl) (cellsL_oneCell rs) (by unfold maxLen; omega) (by omega) (by omega) ?_))
        intro v' w1 hown1 hg1 _
        obtain ⟨a', cap', rfl⟩ := slice_shape hown1
        have hsp := HMm.out.spliced0 HNE.out hown1 hg1
        have hbox1 := HMm.out.box_grown hg1
        obtain ⟨d5⟩ : Nonempty (w1.cell? ⟨lb, 5, none⟩ = some (.slice a es.length cap)) := ⟨by rw [cell_of_row w1 lb _ _ _ _ hbox1]; rfl⟩
        have f5' := frozen_of_row w1 lb 5 _ _ hbox1
        have HSP : Hid (Mid w lb x rs (sumN es - sumN (es.take k)) a' cap' rb rs rc (w1.setCell ⟨lb, 5, none⟩ (.slice a' rs.length cap'))) := hsp
        have hS0 : sumN es - sumN (es.take k) = 0 := by rw [List.take_of_length_le (by have := HL.out; omega)]; omega
        rw [hS0] at HSP
        clear hS0 hsp hown1 hg1 hbox1 hrow hrefs c5 f5 hs2 HMm
        go_wp2
        go_loopw [71] (fun i wr => ∃ j : Nat, j ≤ rs.length ∧ i = .int .i64 j ∧ Mid w lb x rs (sumN (rs.take j)) a' cap' rb rs rc wr) (fun i _ => rs.length - (intOf i).toNat)
        case atStart => exact ⟨0, Nat.zero_le _, rfl, by simpa [sumN] using HSP.out⟩
        case round =>
          obtain ⟨j, hj, rfl, hm⟩ := hrel
          clear HSP d5 f5'
          by_cases hjl : j < rs.length
          · obtain ⟨e0, e1, e2, e3⟩ := refs_at hm.refs hjl
            obtain ⟨c3, c4, c5, c6⟩ := hm.log.cells
            have f6 := frozen_of_row wr lb 6 _ _ hm.log.box
            have hlb := lt_of_block hm.log.box
            have hbd := sum_add hlr j hjl
            obtain ⟨t, ht⟩ : ∃ t, t = rs[j].1 := ⟨_, rfl⟩
            obtain ⟨n, hn⟩ : ∃ n, n = rs[j].2 := ⟨_, rfl⟩
            obtain ⟨S, hS⟩ : ∃ S, S = sumN (rs.take j) := ⟨_, rfl⟩
            rw [← ht] at e0
            rw [← hn] at e2 hbd
            rw [← hS] at c6 hm
            have HS : Hid (S + n = sumN (rs.take (j + 1))) := by rw [hS, hbd.2.2.2]; exact rfl
            have hb1 : 0 ≤ n := hbd.1
            have hb2 : n ≤ 4294967295 := hbd.2.1
            have hb3 : 0 ≤ S ∧ S ≤ 4503599627370496 := by have := hbd.2.2.1; omega
            have HMm : Hid (Mid w lb x rs S a' cap' rb rs rc wr) := hm
            clear ht hn hS hbd hm c3 c4 c5
            go_wp2
            go_region
            all_goals
              go_wp2
              go_roundw
              case rel => exact ⟨j + 1, by omega, by go_num, by rw [← HS.out]; exact ((HMm.out.setSize (S + n)).alloc _).drew⟩
              case measure => simp [intOf]; omega
          · have hjl' : j = rs.length := by omega
            subst hjl'
            go_wp2
            go_end0
            refine ⟨rfl, a', cap', ?_, hm.bel⟩
            have := hm.log
            rw [List.take_length] at this
            exact this

/-- the log behind 'add' at x -/
def spliced (base : Int) (es : List (Int × Int)) (x : Int) (rs : List (Int × Int)) : Int × List (Int × Int) :=
  if 0 < es.length ∧ base < x then (base, es.take (x - base).toNat ++ rs) else (x, rs)

theorem add_all (lb : Nat) (base : Int) (es : List (Int × Int)) (a : Option Addr) (cap : Nat) (rb : Nat) (rs : List (Int × Int)) (rc : Nat) (x : Int) (w : World)
    (h : Mid w lb base es (sumN es) a cap rb rs rc w) (hne : (Value.slice a es.length cap).ownBlock ≠ some rb) (hle : Lens es) (hlr : Lens rs) (hl : es.length ≤ 262144) (hl' : rs.length ≤ 262144)
    (h0 : 0 ≤ base) (hX : x ≤ 18446744073709551615) (hacc : 0 < es.length → x ≤ base + es.length) :
    Calls Trym.prog 24 #[.pointer (some ⟨lb, 0, none⟩), .int .u64 x, .slice (some ⟨rb, 0, none⟩) rs.length rc] w (AddPost w lb (spliced base es x rs).1 (spliced base es x rs).2) := by
  by_cases hc : 0 < es.length ∧ base < x
  · rw [spliced, if_pos hc]
    have := hacc hc.1
    exact add_keep lb base es a cap rb rs rc x (x - base).toNat w h hne hle hlr hl hl' h0 hX hc.2 (by omega) (by omega)
  · rw [spliced, if_neg hc]
    exact add_new lb base es a cap rb rs rc x w h hne hle hlr hl hl' (by omega)

set_option maxHeartbeats 400000 in
theorem zzadd_all (lb : Nat) (base : Int) (es : List (Int × Int)) (a : Option Addr) (cap : Nat) (rb : Nat) (rs : List (Int × Int)) (rc : Nat) (x : Int) (base' : Int) (es' : List (Int × Int)) (w : World)
    (h : Mid w lb base es (sumN es) a cap rb rs rc w) (hne : (Value.slice a es.length cap).ownBlock ≠ some rb) (hle : Lens es) (hlr : Lens rs) (hl : es.length ≤ 262144) (hl' : rs.length ≤ 262144)
    (h0 : 0 ≤ base) (hX : x ≤ 18446744073709551615) (hacc : 0 < es.length → x ≤ base + es.length) (hsp : spliced base es x rs = (base', es')) :
    Calls Trym.prog 11 #[.pointer (some ⟨lb, 0, none⟩), .int .u64 x, .slice (some ⟨rb, 0, none⟩) rs.length rc] w (AddPost w lb base' es') := by
  have HT : Hid (Calls Trym.prog 24 #[.pointer (some ⟨lb, 0, none⟩), .int .u64 x, .slice (some ⟨rb, 0, none⟩) rs.length rc] w (AddPost w lb base' es')) := by
    have := add_all lb base es a cap rb rs rc x w h hne hle hlr hl hl' h0 hX hacc
    rw [hsp] at this
    exact this
  clear hsp h hne hacc
  go_enter Trym.func11, Trym.ntmps11
  go_wp2_with fail
  refine HT.out.mono ?_
  rintro e w' ⟨rfl, h⟩
  go_wp2
  go_end0
  exact ⟨rfl, h⟩

end Go.Proofs.Qxb6001495aMods.L
