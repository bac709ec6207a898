import Derived.Test.Qxb6001495aModsQt
namespace Go.Proofs.Qxb6001495aMods.L
open Go.RowKit

set_option maxHeartbeats 4000000 in
set_option maxRecDepth 100000 in
theorem tail21 {s6 s7 s8 s9 s10 s11 s12 s17 s18 s19 s20 s21 s22 s23 s24 s25 s26 s27 s28 s29 s30 s31 s32 s33 s34 s35 s36 s37 s38 s39 s40 s41 s42 s43 s44 s45 s46 s47 s48 s49 s50 s51 s52 s53 s54 s55 s56 s57 s58 s59 s60 s61 s62 s63 s64 s65 s66 s67 s68 s69 s70 s71 s72 s73 s74 s75 s76 s77 s78 s79 s80 s81 s82 s83 s84 s85 s86 s87 s88 s89 s90 s91 s92 s93 s94 s95 s96 s97 s98 s99 s100 s101 s102 s103 s104 s105 s106 s107 s108 s109 s110 s111 s112 s113 s114 s115 s116 s117 s118 s119 s120 s121 s122 s123 s124 s125 s126 s127 s128 s129 s130 s131 s132 s133 s134 s135 s136 s137 s138 s139 s140 s141 s142 s143 s144 s145 s146 s147 s148 s149 s150 s151 s152 s153 s154 s155 s156 s157 s158 s159 s160 s161 s162 s163 s164 s165 s166 s167 s168 s169 s170 s171 s172 s173 s174 s175 s176 s177 s178 s179 s180 s181 : Value} (w0 w3 : World) (lb : Nat) (base index : Int) (ts ns nts nns : List Int) (b1 b2 b4 b5 : Option Addr) (k m : Nat) (a : Option Addr) (cap : Nat) (w : World)
    (hw0 : Below w0.heap.size w0 w3) (h3 : w3.heap.size ≤ lb) (hlog : Log w lb (if base < index ∧ 0 < k then base else index) (pairs ts ns (keptOf base index k) ++ pairs nts nns m) (sumN (pairs ts ns (keptOf base index k) ++ pairs nts nns m)) a cap) (hbel : Below lb w3 w)
    (hr1 : Row (Value.int .u64) 0 w3 b1 ts.length ts) (hr2 : Row (Value.int .u32) 0 w3 b2 ns.length ns) (hr4 : Row (Value.int .u64) 0 w3 b4 nts.length nts) (hr5 : Row (Value.int .u32) 0 w3 b5 nns.length nns)
    (hk1 : k ≤ ts.length) (hk2 : k ≤ ns.length) (hm1 : m ≤ nts.length) (hm2 : m ≤ nns.length) (hl1 : ts.length ≤ 131072) (hl2 : nts.length ≤ 131072) (hl3 : ns.length ≤ 262144) (hl4 : nns.length ≤ 262144)
    (hb0 : 0 ≤ base) (hbT : base ≤ 18446744073707454463) (hx0 : 0 ≤ index) (hxT : index ≤ 18446744073707454463) (hacc : 0 < k → index ≤ base + k) (hpn : ∀ z ∈ ns, 0 ≤ z ∧ z ≤ 4294967295) (hpm : ∀ z ∈ nns, 0 ≤ z ∧ z ≤ 4294967295) :
    Code.wp Trym.prog (sub [1, 1, 1, 1, 1, 1, 1, 1, 1, 1, 1, 1, 1, 1, 1, 1] (Trym.f3.body.getD .skip)) (bodyPost Trym.prog Trym.f3 (Post w0)) ⟨#[.int .u64 base, .slice b1 ts.length ts.length, .slice b2 ns.length ns.length, .int .u64 index, .slice b4 nts.length nts.length, .slice b5 nns.length nns.length, s6, s7, s8, s9, s10, s11, s12, .int .i64 k, .int .i64 m, .pointer (some ⟨lb, 0, none⟩), .int .i64 0, s17, s18, s19, s20, s21, s22, s23, s24, s25, s26, s27, s28, s29, s30, s31, s32, s33, s34, s35, s36, s37, s38, s39, s40, s41, s42, s43, s44, s45, s46, s47, s48, s49, s50, s51, s52, s53, s54, s55, s56, s57, s58, s59, s60, s61, s62, s63, s64, s65, s66, s67, s68, s69, s70, s71, s72, s73, s74, s75, s76, s77, s78, s79, s80, s81, s82, s83, s84, s85, s86, s87, s88, s89, s90, s91, s92, s93, s94, s95, s96, s97, s98, s99, s100, s101, s102, s103, s104, s105, s106, s107, s108, s109, s110, s111, s112, s113, s114, s115, s116, s117, s118, s119, s120, s121, s122, s123, s124, s125, s126, s127, s128, s129, s130, s131, s132, s133, s134, s135, s136, s137, s138, s139, s140, s141, s142, s143, s144, s145, s146, s147, s148, s149, s150, s151, s152, s153, s154, s155, s156, s157, s158, s159, s160, s161, s162, s163, s164, s165, s166, s167, s168, s169, s170, s171, s172, s173, s174, s175, s176, s177, s178, s179, s180, s181], []⟩ w := by
  obtain ⟨kept, hkept⟩ : ∃ x, x = keptOf base index k := ⟨_, rfl⟩
  have HT : Hid (∀ s17 s112 s113 s114 s115 s116 s117 s118 s119 s120 s121 s122 s123 s124 s125 s126, Code.wp Trym.prog (sub [1, 1, 1, 1, 1, 1, 1, 1, 1, 1, 1, 1, 1, 1, 1, 1, 1] (Trym.f3.body.getD .skip)) (bodyPost Trym.prog Trym.f3 (Post w0)) ⟨#[.int .u64 base, .slice b1 ts.length ts.length, .slice b2 ns.length ns.length, .int .u64 index, .slice b4 nts.length nts.length, .slice b5 nns.length nns.length, s6, s7, s8, s9, s10, s11, s12, .int .i64 k, .int .i64 m, .pointer (some ⟨lb, 0, none⟩), .int .i64 kept, s17, s18, s19, s20, s21, s22, s23, s24, s25, s26, s27, s28, s29, s30, s31, s32, s33, s34, s35, s36, s37, s38, s39, s40, s41, s42, s43, s44, s45, s46, s47, s48, s49, s50, s51, s52, s53, s54, s55, s56, s57, s58, s59, s60, s61, s62, s63, s64, s65, s66, s67, s68, s69, s70, s71, s72, s73, s74, s75, s76, s77, s78, s79, s80, s81, s82, s83, s84, s85, s86, s87, s88, s89, s90, s91, s92, s93, s94, s95, s96, s97, s98, s99, s100, s101, s102, s103, s104, s105, s106, s107, s108, s109, s110, s111, s112, s113, s114, s115, s116, s117, s118, s119, s120, s121, s122, s123, s124, s125, s126, s127, s128, s129, s130, s131, s132, s133, s134, s135, s136, s137, s138, s139, s140, s141, s142, s143, s144, s145, s146, s147, s148, s149, s150, s151, s152, s153, s154, s155, s156, s157, s158, s159, s160, s161, s162, s163, s164, s165, s166, s167, s168, s169, s170, s171, s172, s173, s174, s175, s176, s177, s178, s179, s180, s181], []⟩ w) := by
    intro s17 s112 s113 s114 s115 s116 s117 s118 s119 s120 s121 s122 s123 s124 s125 s126
    rw [hkept]
    exact tail26 w0 w3 lb base index ts ns nts nns b1 b2 b4 b5 k m a cap w hw0 h3 hlog hbel hr1 hr2 hr4 hr5 hk1 hk2 hm1 hm2 hl1 hl2 hl3 hl4 hb0 hbT hx0 hxT hacc hpn hpm
  clear hw0 h3 hlog hbel hr1 hr2 hr4 hr5 hpn hpm
  unfold keptOf at hkept
  conv => arg 2; whnf
  refine wp_seq_k fun K hK => ?_
  have HK : Hid (∀ (a : Act) (w : World), Code.wp Trym.prog _ _ a w → K a w) := hK
  clear hK
  by_cases hbi : base < index
  · by_cases hk0 : 0 < k
    · have hle := hacc hk0
      clear hacc
      have hkk : (kept : Int) = index - base := by rw [hkept]; simp [hbi, hk0]; omega
      clear hkept
      by_cases hq : index < base + k
      · go_wp2
        refine HK.out _ _ ?_
        rw [← hkk]
        exact HT.out _ _ _ _ _ _ _ _ _ _ _ _ _ _ _ _
      · have hki : index = base + k := by omega
        have hkx : kept = k := by omega
        clear hkk
        subst hkx hki
        have he : base + (kept : Int) - base = kept := by omega
        go_wp2
        refine HK.out _ _ ?_
        exact HT.out _ _ _ _ _ _ _ _ _ _ _ _ _ _ _ _
    · have hkz : k = 0 := by omega
      have hkk : kept = 0 := by rw [hkept, hkz]; simp
      clear hkept
      subst hkk hkz
      go_wp2
      refine HK.out _ _ ?_
      exact HT.out _ _ _ _ _ _ _ _ _ _ _ _ _ _ _ _
  · have hkk : kept = 0 := by rw [hkept]; simp [hbi]
    clear hkept
    subst hkk
    go_wp2
    refine HK.out _ _ ?_
    exact HT.out _ _ _ _ _ _ _ _ _ _ _ _ _ _ _ _

end Go.Proofs.Qxb6001495aMods.L
