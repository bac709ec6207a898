import Derived.Test.Qxb6600043aModsTa
namespace Go.Proofs.Qxb6600043aMods.L
open Go.RowKit

/-- none of the first k names leads to x -/
def NoneOf (ss q : List ByteArray) (dss : List (List ByteArray)) (hs : List Hdr) (x : ByteArray) (k : Nat) : Prop := ∀ i, i < k → ¬ (ss.getD i ByteArray.empty ∈ q ∧ x ∈ dsOf ss dss hs (ss.getD i ByteArray.empty))

theorem NoneOf.step {ss q : List ByteArray} {dss : List (List ByteArray)} {hs : List Hdr} {x : ByteArray} {k : Nat} (h : NoneOf ss q dss hs x k) {s : ByteArray} (hse : s = ss.getD k ByteArray.empty) (hn : ¬ (s ∈ q ∧ x ∈ dsOf ss dss hs s)) : NoneOf ss q dss hs x (k + 1) := by
  intro i hi
  by_cases e : i = k
  · subst e
    rw [← hse]
    exact hn
  · exact h i (by omega)

def Same (w wr : World) : Prop := ∃ n, wr = w.drewN n
theorem Same.refl (w : World) : Same w w := ⟨0, rfl⟩
theorem Same.drewN {w wr : World} (h : Same w wr) (n : Nat) : Same w (wr.drewN n) := by
  obtain ⟨m, rfl⟩ := h
  exact ⟨m + n, by simp⟩
theorem Same.here {w wr : World} {b0 : Option Addr} {ss : List ByteArray} {b1 : Option Addr} {hs : List Hdr} {dss : List (List ByteArray)} {b2 : Option Addr} {q : List ByteArray} {ag : Option Addr} {ns : List ByteArray} (h : Same w wr) (hh : Here w b0 ss b1 hs dss b2 q ag ns) : Here wr b0 ss b1 hs dss b2 q ag ns := by
  obtain ⟨m, rfl⟩ := h
  exact hh.drewN m
theorem Same.bel {w0 w wr : World} (h : Same w wr) (hb : Below w0.heap.size w0 w) : Below w0.heap.size w0 wr := by
  obtain ⟨m, rfl⟩ := h
  exact hb.trans ⟨rfl, rfl, rfl, Nat.le_refl _, fun _ _ => rfl⟩

theorem has_sel {w : World} {n : Nat} {a : Option Addr} {len cap : Nat} {x : ByteArray} {ss : List ByteArray} {b : Bool} (hr : Strs (w.drewN n) a len ss) (hlen : len ≤ 1099511627776) (hb : Lib.containsS ss x = b) :
    Calls Trym.prog 12 #[.slice a len cap, .string x] (w.drewN n) (fun e w'' => e = .returned (.bool b) ∧ ∃ m, w'' = w.drewN m) :=
  (has_any a len cap ss x (w.drewN n) hr hlen).mono fun _ _ ⟨h1, h2⟩ => ⟨by rw [h1, hb], n, h2⟩

set_option maxHeartbeats 6400000 in
set_option maxRecDepth 100000 in
theorem tail12 {s3 s4 s5 s6 s7 s9 s10 s11 s12 s13 s14 s15 s16 s17 s18 s19 s20 s21 s22 s23 s24 s25 s26 s27 s28 s29 s30 s31 s32 s33 s34 s35 s36 s37 s38 s39 s40 s41 s42 s43 s44 s45 s46 s47 s48 s49 s50 s51 s52 s53 s54 s55 s56 s57 s58 s59 s60 s61 s62 s63 s64 s65 s66 s67 s68 s69 s70 s71 s72 s73 s74 s75 s76 s77 s78 s79 s80 s81 s82 s83 s84 s85 s86 s87 s88 s89 s90 s91 s92 s93 s94 s95 s96 s97 s98 s99 s100 s101 s102 s103 s104 s105 s106 s107 s108 s109 s110 s111 s112 s113 s114 s115 s116 s117 s118 s119 s120 : Value} (w0 : World) (b0 : Option Addr) (ss : List ByteArray) (b1 : Option Addr) (hs : List Hdr) (dss : List (List ByteArray)) (b2 : Option Addr) (q : List ByteArray) (ag : Option Addr) (cg : Nat) (ns : List ByteArray) (w : World) (hh : Here w b0 ss b1 hs dss b2 q ag ns) (hw0 : Below w0.heap.size w0 w) :
    Code.wp Trym.prog (sub [1, 1, 1, 1, 1, 1, 1, 1, 1] (Trym.f3.body.getD .skip)) (bodyPost Trym.prog Trym.f3 (Post w0)) ⟨#[.slice b0 ss.length ss.length, .slice b1 dss.length dss.length, .slice b2 q.length q.length, s3, s4, s5, s6, s7, .slice ag ns.length cg, s9, s10, s11, s12, s13, s14, s15, s16, s17, s18, s19, s20, s21, s22, s23, s24, s25, s26, s27, s28, s29, s30, s31, s32, s33, s34, s35, s36, s37, s38, s39, s40, s41, s42, s43, s44, s45, s46, s47, s48, s49, s50, s51, s52, s53, s54, s55, s56, s57, s58, s59, s60, s61, s62, s63, s64, s65, s66, s67, s68, s69, s70, s71, s72, s73, s74, s75, s76, s77, s78, s79, s80, s81, s82, s83, s84, s85, s86, s87, s88, s89, s90, s91, s92, s93, s94, s95, s96, s97, s98, s99, s100, s101, s102, s103, s104, s105, s106, s107, s108, s109, s110, s111, s112, s113, s114, s115, s116, s117, s118, s119, s120], []⟩ w := by
  have HH : Hid (Here w b0 ss b1 hs dss b2 q ag ns) := hh
  have HW0 : Hid (Below w0.heap.size w0 w) := hw0
  have hl1 := hh.small.names
  have hl2 := hh.small.query
  have hl3 := hh.gotLen
  clear hh hw0
  conv => arg 2; whnf
  refine wp_seq_k fun K hK => ?_
  have HK : Hid (∀ (a : Act) (w : World), Code.wp Trym.prog _ _ a w → K a w) := hK
  clear hK
  go_wp2
  go_loopw [9, 10, 11] (fun i _ _ wr => ∃ k : Nat, k ≤ ns.length ∧ i = .int .i64 k ∧ Same w wr) (fun i _ _ _ => ns.length - (intOf i).toNat)
  case atStart => exact ⟨0, Nat.zero_le _, rfl, Same.refl w⟩
  case round =>
    obtain ⟨i, hi, rfl, hsm⟩ := hrel
    have HSM : Hid (Same w wr) := hsm
    clear hsm
    by_cases hlt : i < ns.length
    · obtain ⟨b, off, rfl, hb, hc⟩ := HH.out.got.at_pos (by omega)
      have hcx : wr.cell? ⟨b, off + i, none⟩ = some (.string (ns.getD i ByteArray.empty)) := by
        obtain ⟨m, rfl⟩ := HSM.out
        exact hc.out i hlt
      have hmem : ns.getD i ByteArray.empty ∈ ns := mem_getD.2 ⟨i, hlt, rfl⟩
      obtain ⟨x, hxe⟩ : ∃ x, x = ns.getD i ByteArray.empty := ⟨_, rfl⟩
      rw [← hxe] at hcx hmem
      have HXQ : Hid (x ∉ q) := HH.out.out_of hmem
      have HXF : Hid (¬ NoneOf ss q dss hs x ss.length) := fun h => by
        obtain ⟨j, h1, h2⟩ := HH.out.from_one hmem
        exact h j h1 h2
      have HCX : Hid (w.cell? ⟨b, off + i, none⟩ = some (.string x)) := by rw [hxe]; exact hc.out i hlt
      clear hxe hmem
      go_wp2_with fail
      refine (has_no b2 q.length q.length q x wr (HSM.out.here HH.out).query (by omega) HXQ.out).mono ?_
      rintro e w2 ⟨rfl, rfl⟩
      go_wp2
      go_loopw [11] (fun j wr => ∃ k : Nat, k ≤ ss.length ∧ j = .int .i64 k ∧ Same w wr ∧ NoneOf ss q dss hs x k) (fun j _ => ss.length - (intOf j).toNat)
      case atStart => exact ⟨0, Nat.zero_le _, rfl, HSM.out, fun i hi => by omega⟩
      case round =>
        clear HSM hcx
        obtain ⟨k, hk, rfl, hsm, hno⟩ := hrel
        have HSM : Hid (Same w wr) := hsm
        have HNO : Hid (NoneOf ss q dss hs x k) := hno
        clear hsm hno
        by_cases hlt2 : k < ss.length
        · obtain ⟨b', off', rfl, hb', hc'⟩ := HH.out.names.at_pos (by omega)
          have hcy : wr.cell? ⟨b', off' + k, none⟩ = some (.string (ss.getD k ByteArray.empty)) := by
            obtain ⟨m, rfl⟩ := HSM.out
            exact hc'.out k hlt2
          have hcz : wr.cell? ⟨b, off + i, none⟩ = some (.string x) := by
            obtain ⟨m, rfl⟩ := HSM.out
            exact HCX.out
          obtain ⟨s, hse⟩ : ∃ s, s = ss.getD k ByteArray.empty := ⟨_, rfl⟩
          rw [← hse] at hcy
          have HSE : Hid (s = ss.getD k ByteArray.empty) := hse
          have hHere := HSM.out.here HH.out
          have HHR : Hid (Here wr (some ⟨b', off', none⟩) ss b1 hs dss b2 q (some ⟨b, off, none⟩) ns) := hHere
          have h1 : (0 : Int) ≤ (k : Int) := by omega
          have h2 : (k : Int) < (ss.length : Int) := by omega
          have h3 : (0 : Int) ≤ (i : Int) := by omega
          have h4 : (i : Int) < (ns.length : Int) := by omega
          clear hse hHere
          by_cases hsq : s ∈ q
          · have HSQ : Hid (s ∈ q) := hsq
            clear hsq
            obtain ⟨a1, l1, c1, hri, hl, hcall⟩ := HHR.out.depsOf s
            have HCALL : Hid (∀ n, Calls Trym.prog 13 #[.slice (some ⟨b', off', none⟩) ss.length ss.length, .slice b1 dss.length dss.length, .string s] (wr.drewN n) (fun e w' => e = .returned (.slice a1 l1 c1) ∧ w' = wr.drewN n)) := hcall
            have HRI : Hid (Strs wr a1 l1 (dsOf ss dss hs s)) := hri
            clear hri hcall
            by_cases hxd : x ∈ dsOf ss dss hs s
            · have HXD : Hid (x ∈ dsOf ss dss hs s) := hxd
              clear hxd
              go_wp2_with fail
              have HB1 : Hid (Lib.containsS q s = true) := has_true HSQ.out
              have HB2 : Hid (Lib.containsS (dsOf ss dss hs s) x = true) := has_true HXD.out
              go_quiet ((first
                | (go_at_call 13; exact Calls.quiet_of_same (HCALL.out _))
                | (go_at_call 12; refine has_sel (HHR.out.query.drewN _) (by omega) HB1.out)
                | (go_at_call 12; refine has_sel (HRI.out.drewN _) (by omega) HB2.out)))
              go_wp2
              go_roundw
              case rel => exact ⟨i + 1, by omega, by go_num, HSM.out.drewN _⟩
              case measure => simp [intOf]; omega
            · have HXD : Hid (x ∉ dsOf ss dss hs s) := hxd
              clear hxd
              go_wp2_with fail
              have HB1 : Hid (Lib.containsS q s = true) := has_true HSQ.out
              have HB2 : Hid (Lib.containsS (dsOf ss dss hs s) x = false) := has_false HXD.out
              go_quiet ((first
                | (go_at_call 13; exact Calls.quiet_of_same (HCALL.out _))
                | (go_at_call 12; refine has_sel (HHR.out.query.drewN _) (by omega) HB1.out)
                | (go_at_call 12; refine has_sel (HRI.out.drewN _) (by omega) HB2.out)))
              go_wp2
              go_roundw
              case rel => exact ⟨k + 1, by omega, by go_num, HSM.out.drewN _, HNO.out.step HSE.out (fun h => HXD.out h.2)⟩
              case measure => simp [intOf]; omega
          · have HSQ : Hid (s ∉ q) := hsq
            clear hsq
            go_wp2_with fail
            go_quiet ((go_at_call 12; exact Calls.quiet_of_same (has_no b2 q.length q.length q s _ (HHR.out.query.drewN _) (by omega) HSQ.out)))
            go_wp2
            go_roundw
            case rel => exact ⟨k + 1, by omega, by go_num, HSM.out.drewN _, HNO.out.step HSE.out (fun h => HSQ.out h.1)⟩
            case measure => simp [intOf]; omega
        · exfalso
          have : k = ss.length := by omega
          subst this
          exact HXF.out HNO.out
    · go_wp2
      refine HK.out _ _ ?_
      exact tail25 w0 b0 ss b1 hs dss b2 q ag cg ns _ (HSM.out.here HH.out) (HSM.out.bel HW0.out)

set_option maxHeartbeats 6400000 in
set_option maxRecDepth 100000 in
theorem tail10 {s3 s4 s5 s6 s7 s9 s10 s11 s12 s13 s14 s15 s16 s17 s18 s19 s20 s21 s22 s23 s24 s25 s26 s27 s28 s29 s30 s31 s32 s33 s34 s35 s36 s37 s38 s39 s40 s41 s42 s43 s44 s45 s46 s47 s48 s49 s50 s51 s52 s53 s54 s55 s56 s57 s58 s59 s60 s61 s62 s63 s64 s65 s66 s67 s68 s69 s70 s71 s72 s73 s74 s75 s76 s77 s78 s79 s80 s81 s82 s83 s84 s85 s86 s87 s88 s89 s90 s91 s92 s93 s94 s95 s96 s97 s98 s99 s100 s101 s102 s103 s104 s105 s106 s107 s108 s109 s110 s111 s112 s113 s114 s115 s116 s117 s118 s119 s120 : Value} (w0 : World) (b0 : Option Addr) (ss : List ByteArray) (b1 : Option Addr) (hs : List Hdr) (dss : List (List ByteArray)) (b2 : Option Addr) (q : List ByteArray) (ag : Option Addr) (cg : Nat) (ns : List ByteArray) (w : World) (hh : Here w b0 ss b1 hs dss b2 q ag ns) (hw0 : Below w0.heap.size w0 w) :
    Code.wp Trym.prog (sub [1, 1, 1, 1, 1, 1, 1, 1] (Trym.f3.body.getD .skip)) (bodyPost Trym.prog Trym.f3 (Post w0)) ⟨#[.slice b0 ss.length ss.length, .slice b1 dss.length dss.length, .slice b2 q.length q.length, s3, s4, s5, s6, s7, .slice ag ns.length cg, s9, s10, s11, s12, s13, s14, s15, s16, s17, s18, s19, s20, s21, s22, s23, s24, s25, s26, s27, s28, s29, s30, s31, s32, s33, s34, s35, s36, s37, s38, s39, s40, s41, s42, s43, s44, s45, s46, s47, s48, s49, s50, s51, s52, s53, s54, s55, s56, s57, s58, s59, s60, s61, s62, s63, s64, s65, s66, s67, s68, s69, s70, s71, s72, s73, s74, s75, s76, s77, s78, s79, s80, s81, s82, s83, s84, s85, s86, s87, s88, s89, s90, s91, s92, s93, s94, s95, s96, s97, s98, s99, s100, s101, s102, s103, s104, s105, s106, s107, s108, s109, s110, s111, s112, s113, s114, s115, s116, s117, s118, s119, s120], []⟩ w := by
  have HH : Hid (Here w b0 ss b1 hs dss b2 q ag ns) := hh
  have HW0 : Hid (Below w0.heap.size w0 w) := hw0
  have hl3 := hh.gotLen
  clear hh hw0
  conv => arg 2; whnf
  refine wp_seq_k fun K hK => ?_
  have HK : Hid (∀ (a : Act) (w : World), Code.wp Trym.prog _ _ a w → K a w) := hK
  clear hK
  go_wp2_with fail
  refine (noRepeats_any ag ns.length cg ns w HH.out.got hl3 HH.out.ni.1).mono ?_
  rintro e w1 ⟨rfl, hsm⟩
  have HSM : Hid (Same w w1) := hsm
  clear hsm
  go_wp2
  refine HK.out _ _ ?_
  exact tail12 w0 b0 ss b1 hs dss b2 q ag cg ns _ (HSM.out.here HH.out) (HSM.out.bel HW0.out)

end Go.Proofs.Qxb6600043aMods.L
