import Derived.Test.Qxb6001495aModsPl
import Derived.StillTactics
import Derived.Laws.Pointers
import Derived.Deep.RegionHeld3
import Derived.Deep.AppendLies
namespace Go.Proofs.Qxb6001495aMods.L
open Go.RowKit

/-- append within the capacity, as one step of a region that draws its order. -/
theorem step_append_fits {P : Program} {ops : Array Oper} {o : Oper} {a : Act} {w : World} {K : Act → World → Prop} {Q : Exit → Act → World → Prop} {E : Prop}
    (hg : o.guard = none) (s x : Operand) (t : TypeId) (hop : o.op = Op.call { callee := Callee.builtin Builtin.append, args := #[s, x], argTypes := #[t, t] })
    (base : Nat) (e : TypeId) (i : TypeInfo) (size : Nat) (h1 : P.underlying t = some (.slice e)) (h2 : P.info? e = some i) (h4 : i.size = size)
    (g k cap : Nat) (xs : List Value) (hs : a.eval s = .slice (some ⟨g, 0, none⟩) k cap) (hown : w.ownsRow base e size (.slice (some ⟨g, 0, none⟩) k cap) k xs) (ad : Addr) (m c : Nat) (news : List Value) (hx : a.eval x = .slice (some ad) m c) (hn : news.length = m * size)
    (hc : ∀ j u, news[j]? = some u → w.cell? (ad.add j) = some u) (h1c : ∀ u ∈ news, u.oneCell' = true) (b1 : k + m ≤ cap)
    (hK : ∀ w', w'.ownsRow base e size (.slice (some ⟨g, 0, none⟩) (k + m) cap) (k + m) (xs ++ news) → w.grownBy w' (some g) → K (a.put o.dst (.slice (some ⟨g, 0, none⟩) (k + m) cap)) w') :
    if Region.wanted o (yielded ops a.tmps) = true then Oper.wp P o a w K Q else E := by
  have hw : Region.wanted o (yielded ops a.tmps) = true := by simp [Region.wanted, hg]
  rw [if_pos hw]
  obtain ⟨w', hrun, r1, r2⟩ := run_append_fits (P := P) w base t o.type e i size h1 h2 h4 g k cap xs hown ad m c news hn hc h1c b1
  unfold Oper.wp
  simp [execOp, hop, resolve, invoke, builtin, hs, hx, hrun, Result.andThen]
  exact hK w' r1 r2

/-- the refs of terms and lengths -/
def pairs (ts ns : List Int) (k : Nat) : List (Int × Int) := (List.range k).map (fun i => (ts.getD i 0, ns.getD i 0))
theorem pairs_length (ts ns : List Int) (k : Nat) : (pairs ts ns k).length = k := by simp [pairs]
theorem pairs_succ (ts ns : List Int) (k : Nat) : pairs ts ns (k + 1) = pairs ts ns k ++ [(ts.getD k 0, ns.getD k 0)] := by simp [pairs, List.range_succ]
theorem cellsL_one (p : Int × Int) : cellsL [p] = ent p := by simp [cellsL]

theorem ent_oneCell (p : Int × Int) : ∀ u ∈ ent p, u.oneCell' = true := by
  intro u hu
  simp [ent] at hu
  rcases hu with rfl | rfl | rfl | rfl <;> rfl

theorem ent_new (W : World) (p : Int × Int) : ∀ (i : Nat) u, (ent p)[i]? = some u → (W.alloc (.cells #[.int .u64 p.1, .int .i64 0, .int .u32 p.2, .int .u32 0] 43)).cell? ((⟨W.heap.size, 0, none⟩ : Addr).add i) = some u := by
  intro i u hu
  rw [Addr.add_lit, Nat.zero_add, cell_of_row _ W.heap.size i _ 43 (0, 0) (heap_alloc_new W _)]
  simpa [ent] using hu

/-- In the midst of 'rlRefs'. -/
structure Mk (w : World) (lb rb : Nat) (rs : List (Int × Int)) (rc : Nat) (wr : World) : Prop where
  refs : wr.ownsRow lb 43 4 (.slice (some ⟨rb, 0, none⟩) rs.length rc) rs.length (cellsL rs)
  bel : Below w.heap.size w wr

theorem Mk.step {w : World} {lb rb : Nat} {rs : List (Int × Int)} {rc : Nat} {wr W w1 : World} {p : Int × Int} (h : Mk w lb rb rs rc wr) (hW : Below w.heap.size wr W) (hown : w1.ownsRow lb 43 4 (.slice (some ⟨rb, 0, none⟩) (rs.length + 1) rc) (rs.length + 1) (cellsL rs ++ ent p)) (hg : W.grownBy w1 (some rb)) (hrb : w.heap.size ≤ rb) :
    Mk w lb rb (rs ++ [p]) rc w1 := by
  refine ⟨?_, (h.bel.trans hW).grown hg (Nat.le_trans h.bel.size hW.size) (fun k e => by cases e; exact hrb)⟩
  rw [cellsL_append, cellsL_one]
  simpa using hown

def RefsPost (w : World) (lb : Nat) (rs : List (Int × Int)) (e : Ending) (w' : World) : Prop :=
  e = .returned (.slice (some ⟨w.heap.size, 0, none⟩) rs.length rs.length) ∧ Mk w lb w.heap.size rs rs.length w'

set_option maxHeartbeats 3200000 in
set_option maxRecDepth 100000 in
theorem refs_any (lb : Nat) (a1 : Option Addr) (l1 c1 : Nat) (ts : List Int) (a2 : Option Addr) (l2 c2 : Nat) (ns : List Int) (k : Nat) (w : World) (hr1 : Row (Value.int .u64) 0 w a1 l1 ts) (hr2 : Row (Value.int .u32) 0 w a2 l2 ns) (hk1 : k ≤ l1) (hk2 : k ≤ l2) (hk : k ≤ 262144) (hlb : lb ≤ w.heap.size) :
    Calls Trym.prog 12 #[.slice a1 l1 c1, .slice a2 l2 c2, .int .i64 k] w (RefsPost w lb (pairs ts ns k)) := by
  obtain ⟨i0, hi, hz0, hz1, hz2⟩ := info_parts info43
  have e1 := hr1.1
  have e2 := hr2.1
  subst e1 e2
  go_enter Trym.func12, Trym.ntmps12
  go_wp2_with (first
    | (at_make; refine wpList_make_own _ rfl _ _ 32 rfl lb 43 i0 (.agg #[.int .u64 0, .int .i64 0, .int .u32 0, .int .u32 0]) 4 Trym.underlying32 hi hz0 hz1 _ _ _ k rfl rfl (by omega) (by rw [hz2]; omega) (by unfold maxLen; omega) hlb ?_))
  intro w1 hown1 hg1
  obtain ⟨rb, hrb⟩ : ∃ rb, rb = w.heap.size := ⟨_, rfl⟩
  have HM : Hid (Mk w lb rb [] k w1) := by rw [hrb]; exact ⟨hown1, (Below.refl _ _).grown hg1 (Nat.le_refl _) (fun k e => by cases e)⟩
  have HRB : Hid (rb = w.heap.size) := hrb
  rw [← hrb]
  clear hown1 hg1 hrb
  go_wp2
  go_loopw [7, 8] (fun s7 s8 wr => ∃ i : Nat, i ≤ k ∧ s8 = .int .i64 i ∧ s7 = .slice (some ⟨rb, 0, none⟩) i k ∧ Mk w lb rb (pairs ts ns i) k wr) (fun _ s8 _ => k - (intOf s8).toNat)
  case atStart => exact ⟨0, Nat.zero_le _, rfl, rfl, HM.out⟩
  case round =>
    obtain ⟨i, hik, rfl, rfl, hmk⟩ := hrel
    have HMK : Hid (Mk w lb rb (pairs ts ns i) k wr) := hmk
    have hown := hmk.refs
    rw [pairs_length] at hown
    have hws := hmk.bel.size
    clear HM
    by_cases hlt : i < k
    · obtain ⟨q1, o1, rfl, hq1, hc1⟩ := hr1.at_pos (by omega)
      obtain ⟨q2, o2, rfl, hq2, hc2⟩ := hr2.at_pos (by omega)
      have hx1 : wr.cell? ⟨q1, o1 + i, none⟩ = some (.int .u64 (ts.getD i 0)) := (hmk.bel.cell (p := ⟨q1, o1 + i, none⟩) hq1).trans (hc1.out i (by omega))
      have hx2 : wr.cell? ⟨q2, o2 + i, none⟩ = some (.int .u32 (ns.getD i 0)) := (hmk.bel.cell (p := ⟨q2, o2 + i, none⟩) hq2).trans (hc2.out i (by omega))
      obtain ⟨t, ht⟩ : ∃ t, t = ts.getD i 0 := ⟨_, rfl⟩
      obtain ⟨z, hz⟩ : ∃ z, z = ns.getD i 0 := ⟨_, rfl⟩
      rw [← ht] at hx1
      rw [← hz] at hx2
      have HNX : Hid (pairs ts ns (i + 1) = pairs ts ns i ++ [(t, z)]) := by rw [pairs_succ, ht, hz]; exact rfl
      have hI0 : (0 : Int) ≤ (i : Int) := by omega
      have hI1 : (i : Int) < (ts.length : Int) := by omega
      have hI2 : (i : Int) < (ns.length : Int) := by omega
      have n1 : q1 < wr.heap.size := by omega
      have n2 : q2 < wr.heap.size := by omega
      have m1 : (some q1 : Option Nat) ≠ some rb := by have := HRB.out; simp; omega
      have m2 : (some q2 : Option Nat) ≠ some rb := by have := HRB.out; simp; omega
      clear ht hz hmk hr1 hr2
      go_wp2
      go_region_held3 (fun w' => w'.cell? ⟨q1, o1 + i, none⟩ = some (.int .u64 t) ∧ w'.cell? ⟨q2, o2 + i, none⟩ = some (.int .u32 z))
        (first
          | go_keep
          | (go_split_ands
             refine ⟨?_, ?_⟩
             · exact (hg1.cell_far ⟨q1, o1 + i, none⟩ (by simp; omega) m1).trans (by simp [*])
             · exact (hg1.cell_far ⟨q2, o2 + i, none⟩ (by simp; omega) m2).trans (by simp [*])))
        (first
          | (go_at_call 21; refine (ref_any _ _ _).mono ?_; rintro e w' ⟨rfl, rfl⟩)
          | (refine step_append_fits (by rfl) _ _ 32 (by rfl) lb 43 i0 4 Trym.underlying32 hi hz1 rb i k _ (by rfl) (by exact ((hown.alloc _).alloc _).drew) ⟨wr.heap.size + 1, 0, none⟩ 1 1 (ent (t, z)) (by rfl) (by rfl) (by have := ent_new (wr.alloc (.cells #[.int .u64 t, .int .i64 0, .int .u32 z, .int .u32 0] 43)) (t, z); simpa using this) (ent_oneCell _) (by omega) ?_; intro w1 hown1 hg1))
      have hstp := HMK.out.step (p := (t, z)) (((Below.refl _ wr).alloc hws (.cells #[.int .u64 t, .int .i64 0, .int .u32 z, .int .u32 0] 43)).alloc (by simp; omega) (.cells #[.int .u64 t, .int .i64 0, .int .u32 z, .int .u32 0] 43)).drew (by rw [pairs_length]; exact hown1) hg1 (by have := HRB.out; omega)
      have HSTP : Hid (Mk w lb rb (pairs ts ns (i + 1)) k w1) := by rw [HNX.out]; exact hstp
      clear hstp hown1 hg1 hown
      go_wp2
      go_roundw
      case rel => exact ⟨i + 1, by omega, by go_num, rfl, HSTP.out⟩
      case measure => simp [intOf]; omega
    · have hkc : i = k := by omega
      subst hkc
      go_wp2
      go_ret
      have hm := HMK.out
      refine ⟨by rw [pairs_length, ← HRB.out]; rfl, ?_⟩
      rw [pairs_length, ← HRB.out]
      exact hm

/-- the splice model -/
def expectOf (idx base : Int) (ts : List Int) (k : Nat) (index : Int) (nts : List Int) (m : Nat) : Int × Bool :=
  if index ≤ idx ∧ idx - index < m then (nts.getD (idx - index).toNat 0, true)
  else if idx < index ∧ base ≤ idx ∧ idx - base < k then (ts.getD (idx - base).toNat 0, true) else (0, false)

def ExpPost (w : World) (t : Int) (b : Bool) (e : Ending) (w' : World) : Prop := e = .returned (.tuple #[.int .u64 t, .bool b]) ∧ w' = w

set_option maxHeartbeats 1000000 in
theorem expect_any (idx base : Int) (a1 : Option Addr) (ts : List Int) (c1 k : Nat) (index : Int) (a2 : Option Addr) (nts : List Int) (c2 m : Nat) (t : Int) (b : Bool) (w : World)
    (hr1 : Row (Value.int .u64) 0 w a1 ts.length ts) (hr2 : Row (Value.int .u64) 0 w a2 nts.length nts) (hk : k ≤ ts.length) (hm : m ≤ nts.length) (hk' : k ≤ 262144) (hm' : m ≤ 262144) (hl1 : ts.length ≤ 262144) (hl2 : nts.length ≤ 262144)
    (i0 : 0 ≤ idx) (iT : idx ≤ 18446744073709551615) (b0 : 0 ≤ base) (x0 : 0 ≤ index) (he : expectOf idx base ts k index nts m = (t, b)) :
    Calls Trym.prog 25 #[.int .u64 idx, .int .u64 base, .slice a1 ts.length c1, .int .i64 k, .int .u64 index, .slice a2 nts.length c2, .int .i64 m] w (ExpPost w t b) := by
  unfold expectOf at he
  by_cases h1 : index ≤ idx ∧ idx - index < m
  · rw [if_pos h1] at he
    simp only [Prod.mk.injEq] at he
    obtain ⟨he1, rfl⟩ := he
    obtain ⟨q2, o2, rfl, hq2, hc2⟩ := hr2.at_pos (by omega)
    have hcx := hc2.out (idx - index).toNat (by omega)
    rw [he1] at hcx
    obtain ⟨p1, p2⟩ := h1
    have p3 : idx - index < (nts.length : Int) := by omega
    have p4 : 0 ≤ idx - index := by omega
    clear he1 hr1 hr2
    go_enter Trym.func25, Trym.ntmps25
    go_wp2
    go_ret2
    exact ⟨rfl, rfl⟩
  · rw [if_neg h1] at he
    by_cases h2 : idx < index ∧ base ≤ idx ∧ idx - base < k
    · rw [if_pos h2] at he
      simp only [Prod.mk.injEq] at he
      obtain ⟨he1, rfl⟩ := he
      obtain ⟨q1, o1, rfl, hq1, hc1⟩ := hr1.at_pos (by omega)
      have hcx := hc1.out (idx - base).toNat (by omega)
      rw [he1] at hcx
      obtain ⟨p0, p1, p2⟩ := h2
      have p3 : idx - base < (ts.length : Int) := by omega
      have p4 : 0 ≤ idx - base := by omega
      clear he1 hr1 hr2 h1
      go_enter Trym.func25, Trym.ntmps25
      go_wp2
      go_ret2
      exact ⟨rfl, rfl⟩
    · rw [if_neg h2] at he
      simp only [Prod.mk.injEq] at he
      obtain ⟨rfl, rfl⟩ := he
      clear hr1 hr2
      by_cases g1 : index ≤ idx
      · have g2 : ¬ idx - index < m := fun h => h1 ⟨g1, h⟩
        have g3 : ¬ idx < index := by omega
        clear h1 h2
        go_enter Trym.func25, Trym.ntmps25
        go_wp2
        go_ret2
        exact ⟨rfl, rfl⟩
      · have g3 : idx < index := by omega
        by_cases g4 : base ≤ idx
        · have g5 : ¬ idx - base < k := fun h => h2 ⟨g3, g4, h⟩
          clear h1 h2
          go_enter Trym.func25, Trym.ntmps25
          go_wp2
          go_ret2
          exact ⟨rfl, rfl⟩
        · clear h1 h2
          go_enter Trym.func25, Trym.ntmps25
          go_wp2
          go_ret2
          exact ⟨rfl, rfl⟩

def WinPost (w : World) (e : Ending) (w' : World) : Prop := e = .returned (.bool true) ∧ ∃ n, w' = w.drewN n

theorem Row.drewN {α : Type} {val : α → Value} {d : α} {w : World} {a : Option Addr} {len : Nat} {xs : List α} (h : Row val d w a len xs) (q : Nat) : Row val d (w.drewN q) a len xs :=
  h.below (B := w.heap.size) ⟨rfl, rfl, rfl, Nat.le_refl _, fun _ _ => rfl⟩ (Nat.le_refl _)

set_option maxHeartbeats 2000000 in
theorem window_any (lb : Nat) (lbase : Int) (es : List (Int × Int)) (sz : Int) (a : Option Addr) (cap : Nat) (start : Int) (span : Nat) (base : Int) (a1 : Option Addr) (ts : List Int) (c1 k : Nat) (index : Int) (a2 : Option Addr) (nts : List Int) (c2 m : Nat) (w : World)
    (hlog : Log w lb lbase es sz a cap) (hl : es.length ≤ 1048576) (hlb : 0 ≤ lbase)
    (hr1 : Row (Value.int .u64) 0 w a1 ts.length ts) (hr2 : Row (Value.int .u64) 0 w a2 nts.length nts) (hk : k ≤ ts.length) (hm : m ≤ nts.length) (hk' : k ≤ 262144) (hm' : m ≤ 262144) (hl1 : ts.length ≤ 262144) (hl2 : nts.length ≤ 262144)
    (f0 : 0 ≤ start) (fT : start ≤ 18446744073707454463) (hsp : span ≤ 262144) (b0 : 0 ≤ base) (x0 : 0 ≤ index) (hfit : ∀ idx : Int, termOf lbase es idx = expectOf idx base ts k index nts m) :
    Calls Trym.prog 15 #[.pointer (some ⟨lb, 0, none⟩), .int .u64 start, .int .i64 span, .int .u64 base, .slice a1 ts.length c1, .int .i64 k, .int .u64 index, .slice a2 nts.length c2, .int .i64 m] w (WinPost w) := by
  have HLG : Hid (Log w lb lbase es sz a cap) := hlog
  have HR1 : Hid (Row (Value.int .u64) 0 w a1 ts.length ts) := hr1
  have HR2 : Hid (Row (Value.int .u64) 0 w a2 nts.length nts) := hr2
  have HF : Hid (∀ idx : Int, termOf lbase es idx = expectOf idx base ts k index nts m) := hfit
  clear hlog hr1 hr2 hfit
  by_cases hs : 0 < start
  all_goals
    go_enter Trym.func15, Trym.ntmps15
    go_wp2
    go_loopw [21] (fun i wr => ∃ x : Int, 0 ≤ x ∧ x ≤ start + span + 1 ∧ i = .int .u64 x ∧ ∃ q, wr = w.drewN q) (fun i _ => (start + span + 1 - intOf i).toNat)
    case atStart => exact ⟨_, by omega, by omega, rfl, 0, rfl⟩
    case round =>
      obtain ⟨x, hx0, hxT, rfl, q, rfl⟩ := hrel
      by_cases hle : x ≤ start + span
      · obtain ⟨t, b, hte⟩ : ∃ t b, termOf lbase es x = (t, b) := ⟨_, _, rfl⟩
        have HTE : Hid (termOf lbase es x = (t, b)) := hte
        have HEX : Hid (expectOf x base ts k index nts m = (t, b)) := by rw [← HF.out x]; exact hte
        clear hte
        go_wp2_with fail
        refine (zzterm_all lb lbase es sz a cap x t b _ (HLG.out.drewN q) hlb (by omega) hl HTE.out).mono ?_
        rintro e w' ⟨rfl, q', rfl⟩
        go_wp2_with fail
        refine (expect_any x base a1 ts c1 k index a2 nts c2 m t b _ (HR1.out.drewN _) (HR2.out.drewN _) hk hm hk' hm' hl1 hl2 hx0 (by omega) b0 x0 HEX.out).mono ?_
        rintro e w' ⟨rfl, rfl⟩
        go_wp2
        go_roundw
        case rel => exact ⟨x + 1, by omega, by omega, by go_num, _, rfl⟩
        case measure => simp [intOf]; omega
      · go_wp2
        go_ret
        exact ⟨rfl, q, rfl⟩

set_option maxHeartbeats 400000 in
theorem min_any (x y : Nat) (w : World) : Calls Trym.prog 7 #[.int .i64 x, .int .i64 y] w fun e w' => e = .returned (.int .i64 ((min x y : Nat) : Int)) ∧ w' = w := by
  obtain ⟨m, hm⟩ : ∃ m, m = min x y := ⟨_, rfl⟩
  rw [← hm]
  by_cases h : x < y
  · have e : m = x := by omega
    subst e
    clear hm
    go_enter Trym.func7, Trym.ntmps7
    go_wp2
    go_ret
    exact ⟨rfl, rfl⟩
  · have e : m = y := by omega
    subst e
    clear hm
    go_enter Trym.func7, Trym.ntmps7
    go_wp2
    go_ret
    exact ⟨rfl, rfl⟩

end Go.Proofs.Qxb6001495aMods.L
