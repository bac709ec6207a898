import Derived.Test.Qxb6001495aModsPq
namespace Go.Proofs.Qxb6001495aMods.L
open Go.RowKit

/-- a piece of a function's body, by its place -/
def sub : List Nat → Code → Code
  | [], c => c
  | i :: p, .seq a b => sub p (if i = 0 then a else b)
  | _ :: p, .block _ c => sub p c
  | _ :: p, .loop c => sub p c
  | i :: p, .cond _ a b => sub p (if i = 0 then a else b)
  | _, c => c

def Post (w : World) (e : Ending) (w' : World) : Prop := e = .returned (.bool true) ∧ Below w.heap.size w w'

theorem sumN_step {ts ns : List Int} {k : Nat} (hp : ∀ z ∈ ns, 0 ≤ z ∧ z ≤ 4294967295) (hk : k < ns.length) (hl : k ≤ 262144) : 0 ≤ ns.getD k 0 ∧ ns.getD k 0 ≤ 4294967295 ∧ 0 ≤ sumN (pairs ts ns k) ∧ sumN (pairs ts ns k) ≤ 1125899906842624 := by
  have h1 := hp (ns[k]) (List.getElem_mem _)
  have h2 := (pairs_lens (ts := ts) (k := k) hp).bound
  rw [pairs_length] at h2
  rw [List.getD, List.getElem?_eq_getElem hk]
  exact ⟨h1.1, h1.2, h2.1, by omega⟩

set_option maxHeartbeats 4000000 in
set_option maxRecDepth 100000 in
theorem tail26 {s6 s7 s8 s9 s10 s11 s12 s17 s18 s19 s20 s21 s22 s23 s24 s25 s26 s27 s28 s29 s30 s31 s32 s33 s34 s35 s36 s37 s38 s39 s40 s41 s42 s43 s44 s45 s46 s47 s48 s49 s50 s51 s52 s53 s54 s55 s56 s57 s58 s59 s60 s61 s62 s63 s64 s65 s66 s67 s68 s69 s70 s71 s72 s73 s74 s75 s76 s77 s78 s79 s80 s81 s82 s83 s84 s85 s86 s87 s88 s89 s90 s91 s92 s93 s94 s95 s96 s97 s98 s99 s100 s101 s102 s103 s104 s105 s106 s107 s108 s109 s110 s111 s112 s113 s114 s115 s116 s117 s118 s119 s120 s121 s122 s123 s124 s125 s126 s127 s128 s129 s130 s131 s132 s133 s134 s135 s136 s137 s138 s139 s140 s141 s142 s143 s144 s145 s146 s147 s148 s149 s150 s151 s152 s153 s154 s155 s156 s157 s158 s159 s160 s161 s162 s163 s164 s165 s166 s167 s168 s169 s170 s171 s172 s173 s174 s175 s176 s177 s178 s179 s180 s181 : Value} (w0 w3 : World) (lb : Nat) (base index : Int) (ts ns nts nns : List Int) (b1 b2 b4 b5 : Option Addr) (k m : Nat) (a : Option Addr) (cap : Nat) (w : World)
    (hw0 : Below w0.heap.size w0 w3) (h3 : w3.heap.size ≤ lb) (hlog : Log w lb (if base < index ∧ 0 < k then base else index) (pairs ts ns (keptOf base index k) ++ pairs nts nns m) (sumN (pairs ts ns (keptOf base index k) ++ pairs nts nns m)) a cap) (hbel : Below lb w3 w)
    (hr1 : Row (Value.int .u64) 0 w3 b1 ts.length ts) (hr2 : Row (Value.int .u32) 0 w3 b2 ns.length ns) (hr4 : Row (Value.int .u64) 0 w3 b4 nts.length nts) (hr5 : Row (Value.int .u32) 0 w3 b5 nns.length nns)
    (hk1 : k ≤ ts.length) (hk2 : k ≤ ns.length) (hm1 : m ≤ nts.length) (hm2 : m ≤ nns.length) (hl1 : ts.length ≤ 131072) (hl2 : nts.length ≤ 131072) (hl3 : ns.length ≤ 262144) (hl4 : nns.length ≤ 262144)
    (hb0 : 0 ≤ base) (hbT : base ≤ 18446744073707454463) (hx0 : 0 ≤ index) (hxT : index ≤ 18446744073707454463) (hacc : 0 < k → index ≤ base + k) (hpn : ∀ z ∈ ns, 0 ≤ z ∧ z ≤ 4294967295) (hpm : ∀ z ∈ nns, 0 ≤ z ∧ z ≤ 4294967295) :
    Code.wp Trym.prog (sub [1, 1, 1, 1, 1, 1, 1, 1, 1, 1, 1, 1, 1, 1, 1, 1, 1] (Trym.f3.body.getD .skip)) (bodyPost Trym.prog Trym.f3 (Post w0)) ⟨#[.int .u64 base, .slice b1 ts.length ts.length, .slice b2 ns.length ns.length, .int .u64 index, .slice b4 nts.length nts.length, .slice b5 nns.length nns.length, s6, s7, s8, s9, s10, s11, s12, .int .i64 k, .int .i64 m, .pointer (some ⟨lb, 0, none⟩), .int .i64 (keptOf base index k), s17, s18, s19, s20, s21, s22, s23, s24, s25, s26, s27, s28, s29, s30, s31, s32, s33, s34, s35, s36, s37, s38, s39, s40, s41, s42, s43, s44, s45, s46, s47, s48, s49, s50, s51, s52, s53, s54, s55, s56, s57, s58, s59, s60, s61, s62, s63, s64, s65, s66, s67, s68, s69, s70, s71, s72, s73, s74, s75, s76, s77, s78, s79, s80, s81, s82, s83, s84, s85, s86, s87, s88, s89, s90, s91, s92, s93, s94, s95, s96, s97, s98, s99, s100, s101, s102, s103, s104, s105, s106, s107, s108, s109, s110, s111, s112, s113, s114, s115, s116, s117, s118, s119, s120, s121, s122, s123, s124, s125, s126, s127, s128, s129, s130, s131, s132, s133, s134, s135, s136, s137, s138, s139, s140, s141, s142, s143, s144, s145, s146, s147, s148, s149, s150, s151, s152, s153, s154, s155, s156, s157, s158, s159, s160, s161, s162, s163, s164, s165, s166, s167, s168, s169, s170, s171, s172, s173, s174, s175, s176, s177, s178, s179, s180, s181], []⟩ w := by
  have HF := fun idx => splice_fits (ts := ts) (ns := ns) (nts := nts) (nns := nns) (m := m) hacc idx
  have HKL := kept_le hacc
  obtain ⟨kept, hkept⟩ : ∃ x, x = keptOf base index k := ⟨_, rfl⟩
  obtain ⟨lbase, hlbase⟩ : ∃ x, x = (if base < index ∧ 0 < k then base else index) := ⟨_, rfl⟩
  have hlb0 : 0 ≤ lbase := by rw [hlbase]; split <;> omega
  rw [← hkept] at hlog HF HKL ⊢
  rw [← hlbase] at hlog HF
  obtain ⟨es, hes⟩ : ∃ x, x = pairs ts ns kept ++ pairs nts nns m := ⟨_, rfl⟩
  have hel : es.length = kept + m := by rw [hes, List.length_append, pairs_length, pairs_length]
  have hsum : sumN es = sumN (pairs ts ns kept) + sumN (pairs nts nns m) := by rw [hes, sumN_append]
  rw [← hes] at hlog HF
  have HFit : Hid (∀ idx : Int, termOf lbase es idx = expectOf idx base ts k index nts m) := HF
  have HLG : Hid (Log w lb lbase es (sumN es) a cap) := hlog
  have HEL : Hid (es.length = kept + m) := hel
  have HSUM : Hid (sumN es = sumN (pairs ts ns kept) + sumN (pairs nts nns m)) := hsum
  have HBL : Hid (Below lb w3 w) := hbel
  have HPN : Hid (∀ z ∈ ns, 0 ≤ z ∧ z ≤ 4294967295) := hpn
  have HPM : Hid (∀ z ∈ nns, 0 ≤ z ∧ z ≤ 4294967295) := hpm
  have HR1 : Hid (Row (Value.int .u64) 0 w b1 ts.length ts) := hr1.below hbel h3
  have HR2 : Hid (Row (Value.int .u32) 0 w b2 ns.length ns) := hr2.below hbel h3
  have HR4 : Hid (Row (Value.int .u64) 0 w b4 nts.length nts) := hr4.below hbel h3
  have HR5 : Hid (Row (Value.int .u32) 0 w b5 nns.length nns) := hr5.below hbel h3
  have HW0 : Hid (Below w0.heap.size w0 w) := hw0.trans (hbel.mono (Nat.le_trans hw0.size h3))
  clear hkept hlbase hes hel hsum HF hlog hbel hpn hpm hr1 hr2 hr4 hr5 hw0 hacc
  have hk5 : kept ≤ 131072 := by omega
  have hm5 : m ≤ 131072 := by omega
  have hel5 : es.length ≤ 262144 := by have := HEL.out; omega
  conv => arg 2; whnf
  go_wp2_with fail
  refine (len_any lb lbase es (sumN es) a cap w HLG.out).mono ?_
  rintro e w' ⟨rfl, rfl⟩
  have hne : ((es.length : Int) != (kept : Int) + (m : Int)) = false := by rw [HEL.out]; simp
  go_wp2
  go_loop [18, 19] (fun s18 s19 => ∃ i : Nat, i ≤ kept ∧ s19 = .int .i64 i ∧ s18 = .int .u64 (sumN (pairs ts ns i))) (fun _ s19 => kept - (intOf s19).toNat)
  case atStart => exact ⟨0, Nat.zero_le _, rfl, rfl⟩
  case round =>
    obtain ⟨i, hik, rfl, rfl⟩ := hrel
    by_cases hlt : i < kept
    · obtain ⟨q2, o2, rfl, hq2, hc2⟩ := HR2.out.at_pos (by omega)
      have hcx := hc2.out i (by omega)
      have hsb := sumN_step (ts := ts) HPN.out (k := i) (by omega) (by omega)
      obtain ⟨z, hz⟩ : ∃ z, z = ns.getD i 0 := ⟨_, rfl⟩
      obtain ⟨S, hS⟩ : ∃ S, S = sumN (pairs ts ns i) := ⟨_, rfl⟩
      have HNX : Hid (sumN (pairs ts ns (i + 1)) = S + z) := by rw [hS, hz]; exact sumN_pairs_succ ts ns i
      rw [← hz] at hcx hsb
      rw [← hS] at hsb ⊢
      obtain ⟨v1, v2, v3, v4⟩ := hsb
      clear hz hS
      go_wp2
      go_round
      case rel => exact ⟨i + 1, by omega, by go_num, by rw [HNX.out]⟩
      case measure => simp [intOf]; omega
    · have hik' : i = kept := by omega
      subst hik'
      have hS1 : 0 ≤ sumN (pairs ts ns i) ∧ sumN (pairs ts ns i) ≤ 1125899906842624 := by
        have h2 := (pairs_lens (ts := ts) (k := i) HPN.out).bound
        rw [pairs_length] at h2
        omega
      obtain ⟨S1, hS1e⟩ : ∃ S, S = sumN (pairs ts ns i) := ⟨_, rfl⟩
      rw [← hS1e] at hS1 ⊢
      rw [← hS1e] at HSUM
      clear hS1e
      go_wp2
      go_loop [18, 20] (fun s18 s20 => ∃ j : Nat, j ≤ m ∧ s20 = .int .i64 j ∧ s18 = .int .u64 (S1 + sumN (pairs nts nns j))) (fun _ s20 => m - (intOf s20).toNat)
      case atStart => exact ⟨0, Nat.zero_le _, rfl, by simp [pairs, sumN]⟩
      case round =>
        obtain ⟨j, hjm, rfl, rfl⟩ := hrel
        by_cases hlt2 : j < m
        · obtain ⟨q5, o5, rfl, hq5, hc5⟩ := HR5.out.at_pos (by omega)
          have hcx := hc5.out j (by omega)
          have hsb := sumN_step (ts := nts) HPM.out (k := j) (by omega) (by omega)
          obtain ⟨z, hz⟩ : ∃ z, z = nns.getD j 0 := ⟨_, rfl⟩
          obtain ⟨S, hS⟩ : ∃ S, S = sumN (pairs nts nns j) := ⟨_, rfl⟩
          have HNX : Hid (S1 + sumN (pairs nts nns (j + 1)) = S1 + S + z) := by rw [hS, hz, sumN_pairs_succ]; exact (Int.add_assoc _ _ _).symm
          rw [← hz] at hcx hsb
          rw [← hS] at hsb ⊢
          obtain ⟨v1, v2, v3, v4⟩ := hsb
          clear hz hS
          go_wp2
          go_round
          case rel => exact ⟨j + 1, by omega, by go_num, by rw [HNX.out]⟩
          case measure => simp [intOf]; omega
        · have hjm' : j = m := by omega
          subst hjm'
          rw [← HSUM.out]
          obtain ⟨SZ, hSZ⟩ : ∃ S, S = sumN es := ⟨_, rfl⟩
          rw [← hSZ] at HLG ⊢
          clear hSZ HSUM
          go_wp2_with fail
          refine (size_any lb lbase es SZ a cap _ HLG.out).mono ?_
          rintro e w' ⟨rfl, rfl⟩
          go_wp2_with fail
          refine (window_any lb lbase es SZ a cap base k base b1 ts ts.length k index b4 nts nts.length j _ HLG.out (by omega) hlb0 HR1.out HR4.out hk1 hm1 (by omega) (by omega) (by omega) (by omega) hb0 hbT (by omega) hb0 hx0 HFit.out).mono ?_
          rintro e w' ⟨rfl, q, rfl⟩
          go_wp2_with fail
          refine (window_any lb lbase es SZ a cap index j base b1 ts ts.length k index b4 nts nts.length j _ (HLG.out.drewN q) (by omega) hlb0 (HR1.out.drewN q) (HR4.out.drewN q) hk1 hm1 (by omega) (by omega) (by omega) (by omega) hx0 hxT (by omega) hb0 hx0 HFit.out).mono ?_
          rintro e w' ⟨rfl, q', rfl⟩
          go_wp2
          go_ret
          exact ⟨rfl, HW0.out.trans ⟨rfl, rfl, rfl, Nat.le_refl _, fun _ _ => rfl⟩⟩

end Go.Proofs.Qxb6001495aMods.L
