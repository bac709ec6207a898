import Derived.Test.Qxb6000945aModsKId
import Derived.Deep.QuietTactic
import Derived.BigQuiet
namespace Go.Proofs.Qxb6000945aMods.KID
open Go.RowKit Go.Maps Go.WideMaps

theorem info37 : (Trym.prog.info? 37).map (fun i => (i.zero, i.size, i.bytes)) = some (some (.int .u64 0), 1, 8) := by kernel_rfl

theorem K2.setNum {w : World} {kb : Nat} {ns : List ByteArray} {mb : Nat} {D : DataW Unit} {a : Option Addr} {cap : Nat} (h : K2 w kb ns mb D a cap) {ib : Nat} {cur : Array Value} (hi : w.heap[ib]? = some (.cells cur 37 (0, 0))) (j : Nat) (u : Value) :
    K2 (w.setCell ⟨ib, j, none⟩ u) kb ns mb D a cap := by
  have n1 : mb ≠ ib := fun e => by
    obtain ⟨es, clock, hb, _⟩ := h.map
    rw [e, hi] at hb
    cases hb
  have n2 : kb ≠ ib := fun e => by have := h.box; rw [e, hi] at this; cases this
  have n3 : (Value.slice a ns.length cap).ownBlock ≠ some ib := row_ne h.row hi (fun cur e => by cases e)
  refine ⟨by rw [Below.heap_setCell _ _ _ _ n2]; exact h.box, ownsRow_setCell_other h.row (a := ⟨ib, j, none⟩) n3 _, ?_, h.agr, h.le, h.nodup⟩
  obtain ⟨es, clock, hb, r⟩ := h.map
  exact ⟨es, clock, by rw [Below.heap_setCell _ _ _ _ n1]; exact hb, r⟩

theorem KSt.setNum {w : World} {kb : Nat} {ns : List ByteArray} (h : KSt w kb ns) {ib : Nat} {cur : Array Value} (hi : w.heap[ib]? = some (.cells cur 37 (0, 0))) (j : Nat) (u : Value) : KSt (w.setCell ⟨ib, j, none⟩ u) kb ns := by
  rcases h with ⟨rfl, h⟩ | ⟨mb, D, a, cap, h⟩
  · exact .inl ⟨rfl, by rw [Below.heap_setCell _ _ _ _ (fun e => by rw [e, hi] at h; cases h)]; exact h⟩
  · exact .inr ⟨mb, D, a, cap, h.setNum hi j u⟩

/-- Behind i rounds of the first loop. -/
structure Inv (w1 : World) (kb ib : Nat) (ss : List ByteArray) (i : Nat) (ns : List ByteArray) (cur : Array Value) (wr : World) : Prop where
  st : KSt wr kb ns
  len : ns.length ≤ i
  ids : wr.heap[ib]? = some (.cells cur 37 (0, 0))
  size : cur.size = ss.length
  num : ∀ j, j < i → ∃ m : Nat, cur[j]? = some (.int .u64 m) ∧ ns[m]? = some (ss.getD j ByteArray.empty)
  bel : Below kb w1 wr

def Inv1 (w1 : World) (kb ib : Nat) (ss : List ByteArray) (i : Nat) (wr : World) : Prop := ∃ ns cur, Inv w1 kb ib ss i ns cur wr

theorem Inv.step {w1 wr w' : World} {kb ib : Nat} {ss : List ByteArray} {i : Nat} {ns ns' : List ByteArray} {cur : Array Value} (h : Inv w1 kb ib ss i ns cur wr) (hi : i < ss.length) (hib : kb ≤ ib) (h' : KSt w' kb ns') (hn : Nums wr w') (hl : ns'.length ≤ i + 1)
    (hx : ∀ (m : Nat) x, ns[m]? = some x → ns'[m]? = some x) {m : Nat} (hm : ns'[m]? = some (ss.getD i ByteArray.empty)) (hb : Below kb wr w') :
    Inv1 w1 kb ib ss (i + 1) (w'.setCell ⟨ib, i, none⟩ (.int .u64 m)) := by
  have hids := hn ib cur h.ids
  refine ⟨ns', cur.setIfInBounds i (.int .u64 m), h'.setNum hids i _, hl, heap_setCell_same w' ib i cur 37 _ hids, by simpa using h.size, fun j hj => ?_, (h.bel.trans hb).setCell (p := ⟨ib, i, none⟩) hib _⟩
  by_cases e : j = i
  · subst e
    exact ⟨m, by rw [Array.getElem?_setIfInBounds_self_of_lt (by rw [h.size]; exact hi)], hm⟩
  · obtain ⟨m', h1, h2⟩ := h.num j (by omega)
    exact ⟨m', by rw [Array.getElem?_setIfInBounds_ne (fun e' => e e'.symm)]; exact h1, hx _ _ h2⟩

theorem Inv.cell {w1 wr : World} {kb ib : Nat} {ss : List ByteArray} {i : Nat} {ns : List ByteArray} {cur : Array Value} (h : Inv w1 kb ib ss i ns cur wr) {w' : World} (hn : Nums wr w') {j : Nat} (hj : j < ss.length) :
    (∃ v, w'.cell? ⟨ib, j, none⟩ = some v) ∧ w'.frozen? ⟨ib, j, none⟩ = false := by
  have hids := hn ib cur h.ids
  refine ⟨⟨cur[j]'(by rw [h.size]; exact hj), ?_⟩, frozen_of_row w' ib j cur 37 hids⟩
  rw [cell_of_row w' ib j cur 37 (0, 0) hids]
  simp [h.size, hj]

theorem inv_start (w1 : World) (ss : List ByteArray) {M : Array Value} (hM : M.size = ss.length) :
    Inv1 w1 w1.heap.size (w1.heap.size + 1) ss 0 ((w1.alloc (.cells #[.map none, .slice none 0 0] 46)).alloc (.cells M 37)) := by
  have h1 : (w1.alloc (.cells #[.map none, .slice none 0 0] 46)).heap[w1.heap.size]? = some (.cells #[.map none, .slice none 0 0] 46 (0, 0)) := heap_alloc_new w1 _
  have hs : (w1.alloc (.cells #[.map none, .slice none 0 0] 46)).heap.size = w1.heap.size + 1 := by simp
  have h2 := heap_alloc_new (w1.alloc (.cells #[.map none, .slice none 0 0] 46)) (.cells M 37)
  rw [hs] at h2
  refine ⟨[], M, .inl ⟨rfl, ?_⟩, Nat.le_refl _, h2, hM, fun j hj => by omega, ((Below.refl _ _).alloc (Nat.le_refl _) _).alloc (by simp) _⟩
  rw [heap_alloc_old _ _ (by simp)]
  exact h1

theorem names_at {w : World} {base : Nat} {ns : List ByteArray} {a : Option Addr} {cap : Nat} (h : w.ownsRow base 9 1 (.slice a ns.length cap) ns.length (ns.map Value.string)) (hn : 0 < ns.length) : ∃ g, a = some ⟨g, 0, none⟩ := by
  rcases h.2 with ⟨_, h0⟩ | ⟨g, c, cur, hv, _⟩
  · omega
  · simp only [Value.slice.injEq] at hv
    exact ⟨g, hv.1⟩

theorem names_cell {w : World} {kb : Nat} {ns : List ByteArray} (h : KSt w kb ns) {g cap : Nat} (hc : w.cell? ⟨kb, 1, none⟩ = some (.slice (some ⟨g, 0, none⟩) ns.length cap)) {m : Nat} {s : ByteArray} (hm : ns[m]? = some s) : w.cell? ⟨g, m, none⟩ = some (.string s) := by
  obtain ⟨a, c, hc', hrow⟩ := h.names
  rw [hc'] at hc
  simp only [Option.some.injEq, Value.slice.injEq] at hc
  obtain ⟨rfl, _, rfl⟩ := hc
  have hlt := (List.getElem?_eq_some_iff.1 hm).1
  rw [hrow.cellAt m (by omega)]
  simp [hm]

theorem KSt.drewN {wr : World} {kb : Nat} {ns : List ByteArray} (h : KSt wr kb ns) (n : Nat) : KSt (wr.drewN n) kb ns := h.below ⟨rfl, rfl, rfl, Nat.le_refl _, fun _ _ => rfl⟩

theorem Inv.drewN {w1 wr : World} {kb ib : Nat} {ss : List ByteArray} {i : Nat} {ns : List ByteArray} {cur : Array Value} (h : Inv w1 kb ib ss i ns cur wr) (n : Nat) : Inv w1 kb ib ss i ns cur (wr.drewN n) :=
  ⟨h.st.below ⟨rfl, rfl, rfl, Nat.le_refl _, fun _ _ => rfl⟩, h.len, h.ids, h.size, h.num, h.bel.trans ⟨rfl, rfl, rfl, Nat.le_refl _, fun _ _ => rfl⟩⟩

theorem Strs.at_pos {w : World} {a : Option Addr} {len : Nat} {ss : List ByteArray} (h : Strs w a len ss) (hp : 0 < len) : ∃ b off, a = some ⟨b, off, none⟩ ∧ b < w.heap.size ∧ Hid (∀ i, i < len → w.cell? ⟨b, off + i, none⟩ = some (.string (ss.getD i ByteArray.empty))) := by
  rcases h.2 with h0 | h
  · omega
  · exact h

theorem make_ids {n : Nat} (hl : n ≤ 65536) : ∃ M : Array Value, M.size = n ∧ ∀ W : World, (Instr.makeSlice 40 (.int .i64 (n : Int)) (.int .i64 (n : Int))).run Trym.prog W = .ok (.slice (some ⟨W.heap.size, 0, none⟩) n n) (W.alloc (.cells M 37)) := by
  obtain ⟨i0, hi, hz0, hz1, hz2⟩ := info_parts info37
  refine ⟨madeCells (Value.int .u64 0).cells (((n : Nat) : Int).toNat * i0.size), by rw [size_madeCells, hz1]; simp, fun W => ?_⟩
  have h := run_make (P := Trym.prog) W 40 37 i0 (.int .u64 0) Trym.underlying40 hi hz0 .i64 .i64 (n : Int) (n : Int) (by omega) (by omega) (by rw [hz2]; omega) (by omega)
  simpa using h

/-- The law's promise. -/
def Post (w : World) (e : Ending) (w' : World) : Prop := e = .returned (.bool true) ∧ Below w.heap.size w w'

set_option maxHeartbeats 1000000 in
theorem law_any (a : Option Addr) (len cap : Nat) (ss : List ByteArray) (w : World) (hr : Strs w a len ss) (hlen : len ≤ maxLen) (hs : ∀ s ∈ ss, s.size ≤ maxLen) :
    Calls Trym.prog 7 #[.slice a len cap] w (Post w) := by
  have HB : Hid (Calls Trym.prog 18 #[.slice a len cap] w (BytesPost ss w)) := bytes_any a len cap ss w hr hlen hs
  have HSB : Hid (Short ss ss.length → Calls Trym.prog 13 #[.slice a len cap] w (SomeInt w)) := scriptBytes_any a len cap ss w hr hlen
  have HC : Hid (len ≤ 65536 → Calls Trym.prog 14 #[.slice a len cap] w (ClonePost ss w)) := cloneScript_any a len cap ss w hr
  have hL : len = ss.length := hr.1.symm
  subst hL
  clear hr hs
  unfold maxLen at hlen
  go_enter Trym.func7, Trym.ntmps7
  go_wp2_with fail
  refine HB.out.mono ?_
  rintro e w' ⟨b, rfl, rfl, hb⟩
  cases b with
  | false =>
    go_wp2
    go_ret
    exact ⟨rfl, Below.refl _ _⟩
  | true =>
  have hsh := hb rfl
  clear hb
  go_wp2_with fail
  refine (HSB.out hsh).mono ?_
  rintro e w' ⟨n, rfl, rfl⟩
  by_cases hn : 1048576 < n
  · go_wp2
    go_ret
    exact ⟨rfl, Below.refl _ _⟩
  by_cases hl : 65536 < ss.length
  · go_wp2
    go_ret
    exact ⟨rfl, Below.refl _ _⟩
  obtain ⟨M, hMs, hmk⟩ := make_ids (n := ss.length) (by omega)
  go_wp2_with fail
  refine (HC.out (by omega)).mono ?_
  rintro e w1 ⟨a1, cap1, rfl, hst, hbel⟩
  go_wp2_with fail
  refine (newKeys_any w1).mono ?_
  rintro e w2 ⟨rfl, rfl⟩
  have hinv0 : Inv1 w1 w1.heap.size (w1.heap.size + 1) ss 0 ((w1.alloc (.cells #[.map none, .slice none 0 0] 46)).alloc (.cells M 37)) := inv_start w1 ss hMs
  obtain ⟨kb, hkb⟩ : ∃ kb, kb = w1.heap.size := ⟨_, rfl⟩
  obtain ⟨ib, hib⟩ : ∃ ib, ib = w1.heap.size + 1 := ⟨_, rfl⟩
  rw [← hib, ← hkb] at hinv0
  have HK : Hid (kb = w1.heap.size ∧ ib = w1.heap.size + 1) := ⟨hkb, hib⟩
  rcases Nat.eq_zero_or_pos ss.length with h0 | hpos
  · have HL : Hid (ss.length = 0) := h0
    have hmk0 : ∀ W : World, (Instr.makeSlice 40 (.int .i64 0) (.int .i64 0)).run Trym.prog W = .ok (.slice (some ⟨W.heap.size, 0, none⟩) 0 0) (W.alloc (.cells M 37)) := fun W => by simpa [h0] using hmk W
    have hl0 : (ss.length : Int) = 0 := by omega
    go_wp2
    refine wp_loop_rounds 1 ?_
    rw [rounds_succ]
    go_wp2_with fail
    refine (zznames_any w1.heap.size (.slice none 0 0) _ (by simp)).mono ?_
    rintro e w' ⟨rfl, rfl⟩
    go_wp2
    refine wp_loop_rounds 1 ?_
    rw [rounds_succ]
    go_wp2
    go_ret
    exact ⟨rfl, hbel.trans (((Below.refl _ _).alloc hbel.size _).alloc (by have := hbel.size; simp; omega) _)⟩
  obtain ⟨b, off, rfl, hb, hc⟩ := hst.at_pos hpos
  go_wp2
  go_loopw [5] (fun i wr => ∃ k : Nat, k ≤ ss.length ∧ i = .int .i64 k ∧ Inv1 w1 w1.heap.size (w1.heap.size + 1) ss k wr) (fun i _ => ss.length - (intOf i).toNat)
  case atStart => exact ⟨0, Nat.zero_le _, rfl, inv_start w1 ss hMs⟩
  case round =>
    obtain ⟨k, hk, rfl, ns, cur, hinv⟩ := hrel
    by_cases hlt : k < ss.length
    · have hcx : wr.cell? ⟨b, off + k, none⟩ = some (.string (ss.getD k ByteArray.empty)) := (hinv.bel.cell (p := ⟨b, off + k, none⟩) hb).trans (hc.out k hlt)
      have hsz := hsh k hlt
      obtain ⟨s, hse⟩ : ∃ s, s = ss.getD k ByteArray.empty := ⟨_, rfl⟩
      rw [← hse] at hcx hsz
      have HSE : Hid (s = ss.getD k ByteArray.empty) := hse
      have HI : Hid (Inv w1 w1.heap.size (w1.heap.size + 1) ss k ns cur wr) := hinv
      have hst := hinv.st
      have hnl := hinv.len
      clear hse hinv
      by_cases hin : s ∈ ns
      · obtain ⟨m, hm⟩ := List.getElem?_of_mem hin
        have HM : Hid (ns[m]? = some s) := hm
        obtain ⟨⟨v, hv⟩, hf⟩ := HI.out.cell (Nums.refl wr) hlt
        have hnext := HI.out.step hlt (by omega) hst (Nums.refl wr) (by omega) (fun _ _ h => h) (by rw [← HSE.out]; exact hm) (Below.refl _ _)
        clear hin hm
        go_wp2_with (go_at_call 16; refine (zzid_yes w1.heap.size ns s m _ hst hsz HM.out).mono ?_; rintro e w' ⟨rfl, rfl⟩)
        go_roundw
        case rel => exact ⟨k + 1, by omega, by go_num, hnext⟩
        case measure => simp [intOf]; omega
      · have HN : Hid (s ∉ ns) := hin
        clear hin
        go_wp2_with fail
        refine (zzid_new w1.heap.size ns s _ hst hsz HN.out (by omega)).mono ?_
        rintro e w' ⟨rfl, hst', hbel', hnum'⟩
        obtain ⟨⟨v, hv⟩, hf⟩ := HI.out.cell hnum' hlt
        have hnext := HI.out.step hlt (by omega) hst' hnum' (by simp; omega) (fun m x h => by rw [List.getElem?_append_left (List.getElem?_eq_some_iff.1 h).1]; exact h) (m := ns.length) (by rw [← HSE.out]; simp) hbel'
        clear hst' hbel' hnum'
        go_wp2
        go_roundw
        case rel => exact ⟨k + 1, by omega, by go_num, hnext⟩
        case measure => simp [intOf]; omega
    · have hkl : k = ss.length := by omega
      subst hkl
      have hpos : 0 < ss.length := by assumption
      obtain ⟨a2, cap2, hcn, hrow⟩ := hinv.st.names
      obtain ⟨m0, _, hm0⟩ := hinv.num 0 hpos
      have hnpos : 0 < ns.length := by have := (List.getElem?_eq_some_iff.1 hm0).1; omega
      have hnl := hinv.len
      have hg := names_at hrow hnpos
      obtain ⟨g, rfl⟩ := hg
      have HI : Hid (Inv w1 w1.heap.size (w1.heap.size + 1) ss ss.length ns cur wr) := hinv
      clear hinv hm0 hlt hrow
      have hdec : decide (ss.length < ns.length) = false := by simp; omega
      go_wp2_with fail
      refine (zznames_any w1.heap.size _ _ hcn).mono ?_
      rintro e w' ⟨rfl, rfl⟩
      have HC2 : Hid (w'.cell? ⟨w1.heap.size, 1, none⟩ = some (.slice (some ⟨g, 0, none⟩) ns.length cap2)) := hcn
      clear hcn
      go_wp2
      go_loopw [7] (fun i wr' => ∃ k : Nat, k ≤ ss.length ∧ i = .int .i64 ((k : Int) - 1) ∧ Inv w1 w1.heap.size (w1.heap.size + 1) ss ss.length ns cur wr' ∧ wr'.cell? ⟨w1.heap.size, 1, none⟩ = some (.slice (some ⟨g, 0, none⟩) ns.length cap2)) (fun i _ => (intOf i + 1).toNat)
      case atStart => exact ⟨ss.length, Nat.le_refl _, rfl, HI.out, by exact HC2.out⟩
      case round =>
        clear HI
        obtain ⟨k, hk, rfl, hinv, hcn⟩ := hrel
        by_cases hlt : 0 < k
        · obtain ⟨j, rfl⟩ : ∃ j, k = j + 1 := ⟨k - 1, by omega⟩
          obtain ⟨m, hmc, hmn⟩ := hinv.num j (by omega)
          have hej : ((j + 1 : Nat) : Int) - 1 = (j : Int) := by omega
          rw [hej]
          have hj0 : (0 : Int) ≤ (j : Int) := by omega
          have hjl : (j : Int) < (ss.length : Int) := by omega
          have hcx : wr.cell? ⟨b, off + j, none⟩ = some (.string (ss.getD j ByteArray.empty)) := (hinv.bel.cell (p := ⟨b, off + j, none⟩) hb).trans (hc.out j (by omega))
          have hsz := hsh j (by omega)
          obtain ⟨s, hse⟩ : ∃ s, s = ss.getD j ByteArray.empty := ⟨_, rfl⟩
          rw [← hse] at hcx hsz hmn
          have hci : wr.cell? ⟨w1.heap.size + 1, j, none⟩ = some (.int .u64 m) := by
            rw [cell_of_row wr _ j cur 37 (0, 0) hinv.ids]; exact hmc
          have hcg := names_cell hinv.st hcn hmn
          have hml : m < ns.length := (List.getElem?_eq_some_iff.1 hmn).1
          have hml' : (m : Int) < (ns.length : Int) := by omega
          have HMN : Hid (ns[m]? = some s) := hmn
          have HI : Hid (Inv w1 w1.heap.size (w1.heap.size + 1) ss ss.length ns cur wr) := hinv
          have hst := hinv.st
          clear hse hinv hmc hmn hej
          go_wp2_with fail
          go_quiet ((go_at_call 16; exact Calls.quiet_of_same (zzid_yes w1.heap.size ns s m _ (hst.drewN _) hsz HMN.out)))
          go_wp2_with fail
          refine (zznames_any w1.heap.size (.slice (some ⟨g, 0, none⟩) ns.length cap2) _ (by exact hcn)).mono ?_
          rintro e w' ⟨rfl, rfl⟩
          go_wp2_with fail
          go_quiet (fail)
          go_wp2
          go_roundw
          case rel => exact ⟨j, by omega, by go_num, HI.out.drewN _, by exact hcn⟩
          case measure => simp [intOf]
        · have hk0 : k = 0 := by omega
          subst hk0
          go_wp2
          go_ret
          exact ⟨rfl, hbel.trans (hinv.bel.mono hbel.size)⟩

end Go.Proofs.Qxb6000945aMods.KID
