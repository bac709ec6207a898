import Derived.Test.Qxb6600043aModsGr
import Derived.Maps.AppendAt
namespace Go.Proofs.Qxb6600043aMods.L
open Go.RowKit Go.Maps Go.WideMaps

/-- 'needs' holds, each once, what of L is not in q. -/
def NI (q L ns : List ByteArray) : Prop := ns.Nodup ∧ ∀ x, x ∈ ns ↔ x ∈ L ∧ x ∉ q

theorem NI.nil (q : List ByteArray) : NI q [] [] := ⟨List.nodup_nil, fun x => by simp⟩
theorem NI.skip {q L ns : List ByteArray} (h : NI q L ns) {d : ByteArray} (hd : d ∈ q ∨ d ∈ ns) : NI q (L ++ [d]) ns := by
  refine ⟨h.1, fun x => ?_⟩
  rw [h.2 x]
  constructor
  · rintro ⟨h1, h2⟩
    exact ⟨List.mem_append.2 (.inl h1), h2⟩
  · rintro ⟨h1, h2⟩
    refine ⟨?_, h2⟩
    rcases List.mem_append.1 h1 with h1 | h1
    · exact h1
    · simp at h1
      subst h1
      rcases hd with hd | hd
      · exact absurd hd h2
      · exact ((h.2 x).1 hd).1
theorem NI.add {q L ns : List ByteArray} (h : NI q L ns) {d : ByteArray} (hq : d ∉ q) (hn : d ∉ ns) : NI q (L ++ [d]) (ns ++ [d]) := by
  refine ⟨?_, fun x => ?_⟩
  · rw [List.nodup_append]
    refine ⟨h.1, by simp, fun x hx y hy => ?_⟩
    simp at hy
    subst hy
    exact fun e => hn (e ▸ hx)
  · rw [List.mem_append, h.2 x, List.mem_append]
    simp
    constructor
    · rintro (⟨h1, h2⟩ | h1)
      · exact ⟨.inl h1, h2⟩
      · exact ⟨.inr h1, h1 ▸ hq⟩
    · rintro ⟨h1 | h1, h2⟩
      · exact .inl ⟨h1, h2⟩
      · exact .inr h1

/-- what the first k names lead to -/
def flat (ss q : List ByteArray) (ds : ByteArray → List ByteArray) : Nat → List ByteArray
  | 0 => []
  | k + 1 => flat ss q ds k ++ (if Lib.containsS q (ss.getD k ByteArray.empty) = true then ds (ss.getD k ByteArray.empty) else [])

/-- In the midst of 'Needs'. -/
structure Nd (w : World) (q L ns : List ByteArray) (a : Option Addr) (cap : Nat) (wr : World) : Prop where
  row : wr.ownsRow w.heap.size 9 1 (.slice a ns.length cap) ns.length (ns.map Value.string)
  bel : Below w.heap.size w wr
  inv : NI q L ns

theorem Nd.start (w : World) (q : List ByteArray) : Nd w q [] [] none 0 w := ⟨World.ownsRow_nil _ _ _ _, Below.refl _ _, NI.nil q⟩

theorem strs_of_own {w : World} {base : Nat} {a : Option Addr} {cap : Nat} {ns : List ByteArray} (h : w.ownsRow base 9 1 (.slice a ns.length cap) ns.length (ns.map Value.string)) : Strs w a ns.length ns := by
  refine ⟨rfl, ?_⟩
  rcases h.2 with ⟨_, h0⟩ | ⟨g, c, cur, he, _, hg, hle, _, hsz, htk⟩
  · exact .inl h0
  · right
    simp at he
    refine ⟨g, 0, he.1, lt_of_block hg, fun i hi => ?_⟩
    rw [Nat.zero_add, cell_of_row w g i cur 9 (0, 0) hg]
    have h1 : (cur.toList.take (ns.length * 1))[i]? = (ns.map Value.string)[i]? := by rw [htk]
    rw [List.getElem?_take, if_pos (by omega)] at h1
    rw [← Array.getElem?_toList, h1]
    simp [List.getD, hi]

theorem Nd.skip {w : World} {q L L' ns : List ByteArray} {a : Option Addr} {cap : Nat} {wr : World} (h : Nd w q L ns a cap wr) {d : ByteArray} (hd : d ∈ q ∨ d ∈ ns) (hL : L' = L ++ [d]) : Nd w q L' ns a cap wr := ⟨h.row, h.bel, hL ▸ h.inv.skip hd⟩

theorem Nd.own_block {w : World} {q L ns : List ByteArray} {a : Option Addr} {cap : Nat} {wr : World} (h : Nd w q L ns a cap wr) (k : Nat) (e : (Value.slice a ns.length cap).ownBlock = some k) : w.heap.size ≤ k := by
  rcases h.row.2 with ⟨h1, _⟩ | ⟨g, c, cur, he, hle, _⟩
  · simp at h1
    rw [h1.1] at e
    simp [Value.ownBlock] at e
  · simp at he
    rw [he.1] at e
    simp [Value.ownBlock] at e
    omega

theorem Nd.add {w : World} {q L L' ns : List ByteArray} {a : Option Addr} {cap : Nat} {wr w5 : World} (h : Nd w q L ns a cap wr) {d : ByteArray} (hq : d ∉ q) (hn : d ∉ ns) (hL : L' = L ++ [d]) {O : Obj} {a' : Option Addr} {cap' : Nat}
    (hown : w5.ownsRow w.heap.size 9 1 (.slice a' (ns.length + 1) cap') (ns.length + 1) (ns.map Value.string ++ [.string d])) (hg : (wr.alloc O).grownBy w5 (Value.slice a ns.length cap).ownBlock) : Nd w q L' (ns ++ [d]) a' cap' w5 :=
  ⟨by simpa using hown, (h.bel.alloc h.bel.size O).grown hg (Nat.le_trans h.bel.size (by simp)) h.own_block, hL ▸ h.inv.add hq hn⟩

theorem str_oneCell (s : ByteArray) : ∀ u ∈ [Value.string s], u.oneCell' = true := by
  intro u hu
  simp at hu
  subst hu
  rfl

theorem slice_shape {w : World} {base : Nat} {e : TypeId} {size : Nat} {v : Value} {n : Nat} {xs : List Value} (h : w.ownsRow base e size v n xs) : ∃ a cap, v = .slice a n cap := by
  rcases h.2 with ⟨rfl, rfl⟩ | ⟨g, c, cur, rfl, _⟩
  · exact ⟨none, 0, rfl⟩
  · exact ⟨_, _, rfl⟩

theorem take_snoc {l : List ByteArray} {j : Nat} (h : j < l.length) {x : ByteArray} (hx : x = l.getD j ByteArray.empty) : l.take (j + 1) = l.take j ++ [x] := by
  rw [List.take_add_one, hx, List.getD, List.getElem?_eq_getElem h]
  rfl

theorem flat_in {ss q : List ByteArray} {ds : ByteArray → List ByteArray} {k : Nat} {s : ByteArray} (hs : s = ss.getD k ByteArray.empty) (h : s ∈ q) : flat ss q ds (k + 1) = flat ss q ds k ++ ds s := by
  rw [flat, ← hs, if_pos (has_true h)]
theorem flat_out {ss q : List ByteArray} {ds : ByteArray → List ByteArray} {k : Nat} {s : ByteArray} (hs : s = ss.getD k ByteArray.empty) (h : s ∉ q) : flat ss q ds (k + 1) = flat ss q ds k := by
  rw [flat, ← hs, if_neg (by rw [has_false h]; simp), List.append_nil]

def NeedsPost (w : World) (q L : List ByteArray) (e : Ending) (w' : World) : Prop :=
  ∃ a cap ns, e = .returned (.slice a ns.length cap) ∧ Strs w' a ns.length ns ∧ NI q L ns ∧ ns.length ≤ 1099511627776 ∧ Below w.heap.size w w'

set_option maxHeartbeats 3200000 in
set_option maxRecDepth 100000 in
theorem needs_any (gb mb n : Nat) (look : ByteArray → Hdr) (ds : ByteArray → List ByteArray) (a : Option Addr) (len cap : Nat) (ss : List ByteArray) (aq : Option Addr) (lq cq : Nat) (q : List ByteArray) (w : World)
    (hgr : Graph w gb mb a len cap n (fun s => hv (look s))) (hr : Strs w a len ss) (hrd : ∀ s, Strs w (look s).1 (look s).2.1 (ds s)) (hrq : Strs w aq lq q)
    (hlen : len ≤ 1048576) (hlq : lq ≤ 1048576) (hin : ∀ s, (ds s).length ≤ 1048576) (hsz : ∀ s ∈ ss, s.size ≤ maxLen) :
    Calls Trym.prog 10 #[.pointer (some ⟨gb, 0, none⟩), .slice aq lq cq] w (NeedsPost w q (flat ss q ds ss.length)) := by
  have hl := hr.1
  have hl' := hrq.1
  subst hl hl'
  obtain ⟨i0, hi, hz0, hz1, hz2⟩ := info_parts info9
  obtain ⟨hg0, hg1⟩ := hgr.cells
  have hgb := lt_of_block hgr.box
  have HG : Hid (Graph w gb mb a ss.length cap n (fun s => hv (look s))) := hgr
  have HRD : Hid (∀ s, Strs w (look s).1 (look s).2.1 (ds s)) := hrd
  have HIN : Hid (∀ s, (ds s).length ≤ 1048576) := hin
  have HSZ : Hid (∀ s ∈ ss, s.size ≤ maxLen) := hsz
  have HRQ : Hid (Strs w aq q.length q) := hrq
  have HR : Hid (Strs w a ss.length ss) := hr
  have HST := Nd.start w q
  clear hgr hrd hin hsz hrq hr
  go_enter Trym.func10, Trym.ntmps10
  go_wp2
  clear hg0
  go_loopw [5, 7, 9, 15] (fun s5 _ _ s15 wr => ∃ (k : Nat) (ns : List ByteArray) (a2 : Option Addr) (c2 : Nat), k ≤ ss.length ∧ s15 = .int .i64 k ∧ s5 = .slice a2 ns.length c2 ∧ Nd w q (flat ss q ds k) ns a2 c2 wr ∧ ns.length ≤ 1048576 * k) (fun _ _ _ s15 _ => ss.length - (intOf s15).toNat)
  case atStart => exact ⟨0, [], none, 0, Nat.zero_le _, rfl, rfl, HST, by simp⟩
  case round =>
    obtain ⟨k, ns, a2, c2, hk, rfl, rfl, hnd, hnl⟩ := hrel
    have HND : Hid (Nd w q (flat ss q ds k) ns a2 c2 wr) := hnd
    clear HST hnd
    by_cases hlt : k < ss.length
    · obtain ⟨b, off, rfl, hb, hc⟩ := HR.out.at_pos (by omega)
      have hcx : wr.cell? ⟨b, off + k, none⟩ = some (.string (ss.getD k ByteArray.empty)) := (HND.out.bel.cell (p := ⟨b, off + k, none⟩) hb).trans (hc.out k hlt)
      have hsz := getD_le HSZ.out k
      obtain ⟨s, hse⟩ : ∃ s, s = ss.getD k ByteArray.empty := ⟨_, rfl⟩
      rw [← hse] at hcx hsz
      have HSE : Hid (s = ss.getD k ByteArray.empty) := hse
      clear hse
      go_wp2_with fail
      refine (contains_any aq q.length cq q s wr (HRQ.out.below HND.out.bel (Nat.le_refl _)) (by omega)).mono ?_
      rintro e w2 ⟨rfl, rfl⟩
      by_cases hsq : s ∈ q
      · rw [has_true hsq]
        have HSQ : Hid (s ∈ q) := hsq
        clear hsq
        have hlk := (HG.out.map.below (HND.out.bel)).look hsz
        have hgc := (HND.out.bel.cell (p := ⟨gb, 1, none⟩) hgb).trans hg1
        have hri := HRD.out s
        have hil := HIN.out s
        have HFL : Hid (flat ss q ds (k + 1) = flat ss q ds k ++ ds s) := flat_in HSE.out HSQ.out
        obtain ⟨dl, hdl⟩ : ∃ dl, dl = ds s := ⟨_, rfl⟩
        rw [← hdl] at hri hil HFL
        obtain ⟨⟨a1, l1, c1⟩, hh⟩ : ∃ h, h = look s := ⟨_, rfl⟩
        rw [← hh] at hri hlk
        simp only [hv] at hri hlk
        have e1 := hri.1
        subst e1
        have HRI : Hid (Strs w a1 dl.length dl) := hri
        clear hdl hh hri
        have h00 : Nd w q (flat ss q ds k ++ dl.take 0) ns a2 c2 w2 := by rw [List.take_zero, List.append_nil]; exact HND.out
        go_wp2
        go_loopw [5, 9, 30] (fun s5 _ s30 wr => ∃ (j : Nat) (ns : List ByteArray) (a2 : Option Addr) (c2 : Nat), j ≤ dl.length ∧ s30 = .int .i64 j ∧ s5 = .slice a2 ns.length c2 ∧ Nd w q (flat ss q ds k ++ dl.take j) ns a2 c2 wr ∧ ns.length ≤ 1048576 * k + j) (fun _ _ s30 _ => dl.length - (intOf s30).toNat)
        case atStart => exact ⟨0, ns, a2, c2, Nat.zero_le _, rfl, rfl, h00, by omega⟩
        case round =>
          clear HND h00 hnl hlk hgc hcx
          obtain ⟨j, ns, a2, c2, hj, rfl, rfl, hnd, hnl⟩ := hrel
          have HND : Hid (Nd w q (flat ss q ds k ++ dl.take j) ns a2 c2 wr) := hnd
          clear hnd
          by_cases hlt2 : j < dl.length
          · obtain ⟨b', off', rfl, hb', hc'⟩ := HRI.out.at_pos (by omega)
            have hcy : wr.cell? ⟨b', off' + j, none⟩ = some (.string (dl.getD j ByteArray.empty)) := (HND.out.bel.cell (p := ⟨b', off' + j, none⟩) hb').trans (hc'.out j hlt2)
            obtain ⟨d, hde⟩ : ∃ d, d = dl.getD j ByteArray.empty := ⟨_, rfl⟩
            rw [← hde] at hcy
            have hTK : flat ss q ds k ++ dl.take (j + 1) = flat ss q ds k ++ dl.take j ++ [d] := by rw [take_snoc hlt2 hde, List.append_assoc]
            have HTK : Hid (flat ss q ds k ++ dl.take (j + 1) = flat ss q ds k ++ dl.take j ++ [d]) := hTK
            clear hde hTK
            go_wp2_with fail
            refine (contains_any aq q.length cq q d wr (HRQ.out.below HND.out.bel (Nat.le_refl _)) (by omega)).mono ?_
            rintro e w2 ⟨rfl, rfl⟩
            by_cases hdq : d ∈ q
            · rw [has_true hdq]
              have HDQ : Hid (d ∈ q) := hdq
              clear hdq
              go_wp2
              go_roundw
              case rel => exact ⟨j + 1, ns, a2, c2, by omega, by go_num, rfl, HND.out.skip (.inl HDQ.out) HTK.out, by omega⟩
              case measure => simp [intOf]; omega
            · rw [has_false hdq]
              have HDQ : Hid (d ∉ q) := hdq
              clear hdq
              go_wp2_with fail
              refine (contains_any a2 ns.length c2 ns d w2 (strs_of_own HND.out.row) (by omega)).mono ?_
              rintro e w3 ⟨rfl, rfl⟩
              by_cases hdn : d ∈ ns
              · rw [has_true hdn]
                have HDN : Hid (d ∈ ns) := hdn
                clear hdn
                go_wp2
                go_roundw
                case rel => exact ⟨j + 1, ns, a2, c2, by omega, by go_num, rfl, HND.out.skip (.inr HDN.out) HTK.out, by omega⟩
                case measure => simp [intOf]; omega
              · rw [has_false hdn]
                have HDN : Hid (d ∉ ns) := hdn
                clear hdn
                have hrow := HND.out.row
                have hws := HND.out.bel.size
                go_wp2_with (first
                  | (at_builtin; refine wpList_append_own _ rfl _ _ 22 rfl w.heap.size 9 i0 (.string ⟨#[]⟩) 1 16 Trym.underlying22 hi hz0 hz1 hz2 rfl (by decide) _ _ _ rfl (hrow.alloc _) ⟨w3.heap.size, 0, none⟩ 1 1 [.string d] rfl rfl (cell_one_new _ _ _) (str_oneCell d) (by unfold maxLen; omega) (by omega) (by simp; omega) ?_))
                intro v' w5 hown5 hg5 _
                obtain ⟨a', cap', rfl⟩ := slice_shape hown5
                have HNX : Hid (Nd w q (flat ss q ds k ++ dl.take (j + 1)) (ns ++ [d]) a' cap' w5) := HND.out.add HDQ.out HDN.out HTK.out hown5 hg5
                clear hrow hown5 hg5
                go_wp2
                go_roundw
                case rel => exact ⟨j + 1, ns ++ [d], a', cap', by omega, by go_num, by simp, HNX.out, by simp; omega⟩
                case measure => simp [intOf]; omega
          · have hjd : dl.take j = dl := List.take_of_length_le (by omega)
            have HNX : Hid (Nd w q (flat ss q ds (k + 1)) ns a2 c2 wr) := by
              have := HND.out
              rw [hjd] at this
              rw [HFL.out]
              exact this
            clear hjd
            go_wp2
            go_roundw
            case rel => exact ⟨k + 1, ns, a2, c2, by omega, by go_num, rfl, HNX.out, by omega⟩
            case measure => simp [intOf]; omega
      · rw [has_false hsq]
        have HNX : Hid (Nd w q (flat ss q ds (k + 1)) ns a2 c2 w2) := by rw [flat_out HSE.out hsq]; exact HND.out
        clear hsq
        go_wp2
        go_roundw
        case rel => exact ⟨k + 1, ns, a2, c2, by omega, by go_num, rfl, HNX.out, by omega⟩
        case measure => simp [intOf]; omega
    · go_wp2
      go_ret
      have hkn : k = ss.length := by omega
      subst hkn
      exact ⟨a2, c2, ns, rfl, strs_of_own HND.out.row, HND.out.inv, by omega, HND.out.bel⟩

end Go.Proofs.Qxb6600043aMods.L
