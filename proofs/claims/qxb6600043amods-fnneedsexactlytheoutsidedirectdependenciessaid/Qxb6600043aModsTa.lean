import Derived.Test.Qxb6600043aModsNd
namespace Go.Proofs.Qxb6600043aMods.L
open Go.RowKit

/-- a piece of a function's body, by its place -/
def sub : List Nat → Code → Code
  | [], c => c
  | i :: p, .seq a b => sub p (if i = 0 then a else b)
  | _ :: p, .block _ c => sub p c
  | _ :: p, .loop c => sub p c
  | i :: p, .cond _ a b => sub p (if i = 0 then a else b)
  | _, c => c

def Post (w : World) (e : Ending) (w' : World) : Prop := e = .returned (.bool true) ∧ Below w.heap.size w w'

/-- what the last declaration's list reads as -/
def lastDs (ns : List ByteArray) (dss : List (List ByteArray)) (n : ByteArray) : Nat → List ByteArray
  | 0 => []
  | k + 1 => if ns.getD k ByteArray.empty = n then dss.getD k [] else lastDs ns dss n k

theorem Rows.last {w : World} {hs : List Hdr} {dss : List (List ByteArray)} (h : Rows w hs dss) (ss : List ByteArray) (s : ByteArray) : ∀ k, Strs w (lastOf ss hs s k).1 (lastOf ss hs s k).2.1 (lastDs ss dss s k)
  | 0 => Row.empty _ _
  | k + 1 => by
    rw [lastOf, lastDs]
    by_cases e : ss.getD k ByteArray.empty = s
    · rw [if_pos e, if_pos e]
      exact h.2 k
    · rw [if_neg e, if_neg e]
      exact Rows.last h ss s k

theorem lastDs_le {dss : List (List ByteArray)} (h : ∀ i, (dss.getD i []).length ≤ 1048576) (ss : List ByteArray) (s : ByteArray) : ∀ k, (lastDs ss dss s k).length ≤ 1048576
  | 0 => Nat.zero_le _
  | k + 1 => by
    rw [lastDs]
    by_cases e : ss.getD k ByteArray.empty = s
    · rw [if_pos e]
      exact h k
    · rw [if_neg e]
      exact lastDs_le h ss s k

theorem mem_flat {ss q : List ByteArray} {ds : ByteArray → List ByteArray} {x : ByteArray} : ∀ {k : Nat}, x ∈ flat ss q ds k ↔ ∃ i, i < k ∧ ss.getD i ByteArray.empty ∈ q ∧ x ∈ ds (ss.getD i ByteArray.empty)
  | 0 => by simp [flat]
  | k + 1 => by
    rw [flat, List.mem_append, mem_flat (k := k)]
    constructor
    · rintro (⟨i, h1, h2⟩ | h)
      · exact ⟨i, by omega, h2⟩
      · by_cases hc : Lib.containsS q (ss.getD k ByteArray.empty) = true
        · rw [if_pos hc] at h
          exact ⟨k, by omega, (Lib.containsS_iff _ _).1 hc, h⟩
        · rw [if_neg hc] at h
          cases h
    · rintro ⟨i, h1, h2, h3⟩
      by_cases e : i = k
      · subst e
        right
        rw [if_pos (has_true h2)]
        exact h3
      · exact .inl ⟨i, by omega, h2, h3⟩

theorem has_yes (a : Option Addr) (len cap : Nat) (ss : List ByteArray) (x : ByteArray) (w : World) (hr : Strs w a len ss) (hlen : len ≤ 1099511627776) (h : x ∈ ss) :
    Calls Trym.prog 12 #[.slice a len cap, .string x] w (fun e w' => e = .returned (.bool true) ∧ w' = w) :=
  (has_any a len cap ss x w hr hlen).mono fun e w' ⟨h1, h2⟩ => ⟨by rw [h1, has_true h], h2⟩
theorem has_no (a : Option Addr) (len cap : Nat) (ss : List ByteArray) (x : ByteArray) (w : World) (hr : Strs w a len ss) (hlen : len ≤ 1099511627776) (h : x ∉ ss) :
    Calls Trym.prog 12 #[.slice a len cap, .string x] w (fun e w' => e = .returned (.bool false) ∧ w' = w) :=
  (has_any a len cap ss x w hr hlen).mono fun e w' ⟨h1, h2⟩ => ⟨by rw [h1, has_false h], h2⟩

/-- ALL THAT THE LAW LOOKS AT BEHIND 'Needs'. -/
structure Here (w : World) (b0 : Option Addr) (ss : List ByteArray) (b1 : Option Addr) (hs : List Hdr) (dss : List (List ByteArray)) (b2 : Option Addr) (q : List ByteArray) (ag : Option Addr) (ns : List ByteArray) : Prop where
  names : Strs w b0 ss.length ss
  deps : Row hv d0 w b1 dss.length hs
  inner : Rows w hs dss
  query : Strs w b2 q.length q
  got : Strs w ag ns.length ns
  ni : NI q (flat ss q (fun s => lastDs ss dss s (min ss.length hs.length)) ss.length) ns
  small : Small ss dss q
  gotLen : ns.length ≤ 1099511627776

section
variable {w : World} {b0 : Option Addr} {ss : List ByteArray} {b1 : Option Addr} {hs : List Hdr} {dss : List (List ByteArray)} {b2 : Option Addr} {q : List ByteArray} {ag : Option Addr} {ns : List ByteArray}

theorem Here.drewN (h : Here w b0 ss b1 hs dss b2 q ag ns) (n : Nat) : Here (w.drewN n) b0 ss b1 hs dss b2 q ag ns :=
  ⟨h.names.drewN n, h.deps.drewN n, h.inner.drewN n, h.query.drewN n, h.got.drewN n, h.ni, h.small, h.gotLen⟩

/-- an agent's list -/
def dsOf (ss : List ByteArray) (dss : List (List ByteArray)) (hs : List Hdr) (s : ByteArray) : List ByteArray := lastDs ss dss s (min ss.length hs.length)

theorem Here.out_of (h : Here w b0 ss b1 hs dss b2 q ag ns) {x : ByteArray} (hx : x ∈ ns) : x ∉ q := ((h.ni.2 x).1 hx).2
theorem Here.from_one (h : Here w b0 ss b1 hs dss b2 q ag ns) {x : ByteArray} (hx : x ∈ ns) : ∃ i, i < ss.length ∧ ss.getD i ByteArray.empty ∈ q ∧ x ∈ dsOf ss dss hs (ss.getD i ByteArray.empty) := mem_flat.1 ((h.ni.2 x).1 hx).1
theorem Here.all_in (h : Here w b0 ss b1 hs dss b2 q ag ns) {x : ByteArray} (hq : x ∉ q) {i : Nat} (hi : i < ss.length) (hs' : ss.getD i ByteArray.empty ∈ q) (hx : x ∈ dsOf ss dss hs (ss.getD i ByteArray.empty)) : x ∈ ns :=
  (h.ni.2 x).2 ⟨mem_flat.2 ⟨i, hi, hs', hx⟩, hq⟩

/-- 'depsOfB1' -/
theorem Here.depsOf (h : Here w b0 ss b1 hs dss b2 q ag ns) (s : ByteArray) : ∃ a l c, Strs w a l (dsOf ss dss hs s) ∧ l ≤ 1048576 ∧ ∀ n, Calls Trym.prog 13 #[.slice b0 ss.length ss.length, .slice b1 dss.length dss.length, .string s] (w.drewN n) (fun e w' => e = .returned (.slice a l c) ∧ w' = w.drewN n) := by
  have h1 := h.inner.last ss s (min ss.length hs.length)
  have h2 := fun n => depsOf_any b0 ss.length ss.length ss b1 dss.length dss.length hs s (w.drewN n) (h.names.drewN n) (h.deps.drewN n) h.small.names h.small.deps
  have h3 := lastDs_le h.small.inner ss s (min ss.length hs.length)
  exact ⟨_, _, _, h1, by rw [← h1.1]; exact h3, h2⟩
end

set_option maxHeartbeats 3200000 in
set_option maxRecDepth 100000 in
theorem tail25 {s3 s4 s5 s6 s7 s9 s10 s11 s12 s13 s14 s15 s16 s17 s18 s19 s20 s21 s22 s23 s24 s25 s26 s27 s28 s29 s30 s31 s32 s33 s34 s35 s36 s37 s38 s39 s40 s41 s42 s43 s44 s45 s46 s47 s48 s49 s50 s51 s52 s53 s54 s55 s56 s57 s58 s59 s60 s61 s62 s63 s64 s65 s66 s67 s68 s69 s70 s71 s72 s73 s74 s75 s76 s77 s78 s79 s80 s81 s82 s83 s84 s85 s86 s87 s88 s89 s90 s91 s92 s93 s94 s95 s96 s97 s98 s99 s100 s101 s102 s103 s104 s105 s106 s107 s108 s109 s110 s111 s112 s113 s114 s115 s116 s117 s118 s119 s120 : Value} (w0 : World) (b0 : Option Addr) (ss : List ByteArray) (b1 : Option Addr) (hs : List Hdr) (dss : List (List ByteArray)) (b2 : Option Addr) (q : List ByteArray) (ag : Option Addr) (cg : Nat) (ns : List ByteArray) (w : World) (hh : Here w b0 ss b1 hs dss b2 q ag ns) (hw0 : Below w0.heap.size w0 w) :
    Code.wp Trym.prog (sub [1, 1, 1, 1, 1, 1, 1, 1, 1, 1] (Trym.f3.body.getD .skip)) (bodyPost Trym.prog Trym.f3 (Post w0)) ⟨#[.slice b0 ss.length ss.length, .slice b1 dss.length dss.length, .slice b2 q.length q.length, s3, s4, s5, s6, s7, .slice ag ns.length cg, s9, s10, s11, s12, s13, s14, s15, s16, s17, s18, s19, s20, s21, s22, s23, s24, s25, s26, s27, s28, s29, s30, s31, s32, s33, s34, s35, s36, s37, s38, s39, s40, s41, s42, s43, s44, s45, s46, s47, s48, s49, s50, s51, s52, s53, s54, s55, s56, s57, s58, s59, s60, s61, s62, s63, s64, s65, s66, s67, s68, s69, s70, s71, s72, s73, s74, s75, s76, s77, s78, s79, s80, s81, s82, s83, s84, s85, s86, s87, s88, s89, s90, s91, s92, s93, s94, s95, s96, s97, s98, s99, s100, s101, s102, s103, s104, s105, s106, s107, s108, s109, s110, s111, s112, s113, s114, s115, s116, s117, s118, s119, s120], []⟩ w := by
  have HH : Hid (Here w b0 ss b1 hs dss b2 q ag ns) := hh
  have HW0 : Hid (Below w0.heap.size w0 w) := hw0
  have hl1 := hh.small.names
  have hl2 := hh.small.query
  have hl3 := hh.gotLen
  clear hh hw0
  conv => arg 2; whnf
  go_wp2
  go_loop [12, 13, 14] (fun i _ _ => ∃ k : Nat, k ≤ ss.length ∧ i = .int .i64 k) (fun i _ _ => ss.length - (intOf i).toNat)
  case atStart => exact ⟨0, Nat.zero_le _, rfl⟩
  case round =>
    obtain ⟨k, hk, rfl⟩ := hrel
    by_cases hlt : k < ss.length
    · obtain ⟨b, off, rfl, hb, hc⟩ := HH.out.names.at_pos (by omega)
      have hcx := hc.out k hlt
      obtain ⟨s, hse⟩ : ∃ s, s = ss.getD k ByteArray.empty := ⟨_, rfl⟩
      rw [← hse] at hcx
      have HSE : Hid (s = ss.getD k ByteArray.empty) := hse
      clear hse
      by_cases hsq : s ∈ q
      · have HSQ : Hid (s ∈ q) := hsq
        clear hsq
        go_wp2_with fail
        refine (has_yes b2 q.length q.length q s w HH.out.query (by omega) HSQ.out).mono ?_
        rintro e w2 ⟨rfl, rfl⟩
        obtain ⟨a1, l1, c1, hri, hl, hcall⟩ := HH.out.depsOf s
        have HC : Hid (Calls Trym.prog 13 #[.slice (some ⟨b, off, none⟩) ss.length ss.length, .slice b1 dss.length dss.length, .string s] w2 (fun e w' => e = .returned (.slice a1 l1 c1) ∧ w' = w2)) := hcall 0
        have HAL : Hid (∀ x, x ∉ q → x ∈ dsOf ss dss hs s → x ∈ ns) := fun x h1 h2 => HH.out.all_in h1 hlt (by rw [← HSE.out]; exact HSQ.out) (by rw [← HSE.out]; exact h2)
        obtain ⟨dl, hdl⟩ : ∃ dl, dl = dsOf ss dss hs s := ⟨_, rfl⟩
        rw [← hdl] at hri HAL
        have e1 := hri.1
        subst e1
        have HRI : Hid (Strs w2 a1 dl.length dl) := hri
        clear hcall hri hdl
        go_wp2_with fail
        refine HC.out.mono ?_
        rintro e w2 ⟨rfl, rfl⟩
        clear HC
        go_wp2
        go_loop [14] (fun i => ∃ j : Nat, j ≤ dl.length ∧ i = .int .i64 j) (fun i => dl.length - (intOf i).toNat)
        case atStart => exact ⟨0, Nat.zero_le _, rfl⟩
        case round =>
          obtain ⟨j, hj, rfl⟩ := hrel
          by_cases hlt2 : j < dl.length
          · obtain ⟨b', off', rfl, hb', hc'⟩ := HRI.out.at_pos (by omega)
            have hcy := hc'.out j hlt2
            have HMD : Hid (dl.getD j ByteArray.empty ∈ dl) := mem_getD.2 ⟨j, hlt2, rfl⟩
            obtain ⟨d, hde⟩ : ∃ d, d = dl.getD j ByteArray.empty := ⟨_, rfl⟩
            rw [← hde] at hcy HMD
            clear hde
            by_cases hdq : d ∈ q
            · have HDQ : Hid (d ∈ q) := hdq
              clear hdq
              go_wp2_with fail
              refine (has_yes b2 q.length q.length q d _ HH.out.query (by omega) HDQ.out).mono ?_
              rintro e w2 ⟨rfl, rfl⟩
              go_wp2
              go_round
              case rel => exact ⟨j + 1, by omega, by go_num⟩
              case measure => simp [intOf]; omega
            · have HDQ : Hid (d ∉ q) := hdq
              clear hdq
              go_wp2_with fail
              refine (has_no b2 q.length q.length q d _ HH.out.query (by omega) HDQ.out).mono ?_
              rintro e w2 ⟨rfl, rfl⟩
              go_wp2_with fail
              refine (has_yes ag ns.length cg ns d _ HH.out.got (by omega) (HAL.out d HDQ.out HMD.out)).mono ?_
              rintro e w2 ⟨rfl, rfl⟩
              go_wp2
              go_round
              case rel => exact ⟨j + 1, by omega, by go_num⟩
              case measure => simp [intOf]; omega
          · go_wp2
            go_round
            case rel => exact ⟨k + 1, by omega, by go_num⟩
            case measure => simp [intOf]; omega
      · have HSQ : Hid (s ∉ q) := hsq
        clear hsq
        go_wp2_with fail
        refine (has_no b2 q.length q.length q s w HH.out.query (by omega) HSQ.out).mono ?_
        rintro e w2 ⟨rfl, rfl⟩
        go_wp2
        go_round
        case rel => exact ⟨k + 1, by omega, by go_num⟩
        case measure => simp [intOf]; omega
    · go_wp2
      go_ret
      exact ⟨rfl, HW0.out⟩

end Go.Proofs.Qxb6600043aMods.L
