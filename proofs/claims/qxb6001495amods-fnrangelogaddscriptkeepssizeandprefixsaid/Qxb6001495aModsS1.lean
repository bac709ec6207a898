import Derived.Test.Qxb6001495aModsS0
namespace Go.Proofs.Qxb6001495aMods.L
open Go.RowKit

set_option maxHeartbeats 1000000 in
set_option maxRecDepth 100000 in
theorem p56 {s0 s1 s2 s3 s4 s5 s6 s11 s12 s13 s14 s15 s18 s19 s20 s21 s22 s23 s24 s25 s26 s27 s28 s29 s30 s31 s32 s33 s34 s35 s36 s37 s38 s39 s40 s41 s42 s43 s44 s45 s46 s47 s48 s49 s50 s51 s52 s53 s54 s55 s56 s57 s58 s59 s60 s61 s62 s63 s64 s65 s66 s67 s68 s69 s70 s71 s72 s73 s74 s75 s76 s77 s78 s79 s80 s81 s82 s83 s84 s85 s86 s87 s88 s89 s90 s91 s92 s93 s94 s95 s96 s97 s98 s99 s100 s101 s102 s103 s104 s105 s106 s107 s108 s109 s110 s111 s112 s113 s114 s115 s116 s117 s118 s119 s120 s121 s122 s123 s124 s125 s126 s127 s128 s129 s130 s131 s132 s133 s134 s135 s136 s137 s138 s139 s140 s141 s142 s143 s144 s145 s146 s147 s148 s149 s150 s151 s152 s153 s154 s155 s156 s157 s158 s159 s160 s161 s162 s163 s164 s165 s166 s167 s168 s169 s170 s171 s172 s173 s174 s175 s176 s177 s178 s179 s180 s181 s182 s183 s184 s185 s186 s187 s188 s189 s190 s191 s192 s193 s194 s195 s196 s197 s198 s199 s200 s201 s202 s203 s204 s205 s206 s207 s208 s209 s210 s211 : Value} {Q : Exit → Act → World → Prop} (w3 : World) (lb plen j : Nat) (c : Nat) (base : Int) (es : List (Int × Int)) (a : Option Addr) (cap : Nat) (req bt : Int) (bf : Bool) (w : World) (hst : St w3 lb plen c base es a cap w) (hq0 : 0 ≤ req) (hqT : req ≤ 18446744073707454463) (hb : 0 < req → termOf base es (req - 1) = (bt, bf))
    (hQ : Done Q w3 lb plen j s0 s1 s2 s3 s4 s5 s28 s29 s30 s31 s32 s33 s34 s35 s36 s37 s38 s39 s40 s41 s42 s43 s44 s45 s46 s47 s48 s49 s50 s51 s52 s53 s54 s55 s56 s57 s58 s59 s60 s61 s62 s63 s64 s65 s66 s67 s68 s69) :
    Code.wp Trym.prog (sub [1, 1, 1, 1, 1, 1, 1, 1, 1, 0, 1, 0, 0, 1, 0, 0, 1, 1, 1, 1, 1, 1, 1, 1, 1, 1, 1, 1, 1, 1, 1, 1, 1, 1, 1, 1] (Trym.f5.body.getD .skip)) Q ⟨#[s0, s1, s2, s3, s4, s5, s6, .pointer (some ⟨lb, 0, none⟩), .int .i64 c, .int .i64 j, .int .u64 req, s11, s12, s13, s14, s15, .int .u64 bt, .bool bf, s18, s19, s20, s21, s22, s23, s24, s25, s26, s27, s28, s29, s30, s31, s32, s33, s34, s35, s36, s37, s38, s39, s40, s41, s42, s43, s44, s45, s46, s47, s48, s49, s50, s51, s52, s53, s54, s55, s56, s57, s58, s59, s60, s61, s62, s63, s64, s65, s66, s67, s68, s69, s70, s71, s72, s73, s74, s75, s76, s77, s78, s79, s80, s81, s82, s83, s84, s85, s86, s87, s88, s89, s90, s91, s92, s93, s94, s95, s96, s97, s98, s99, s100, s101, s102, s103, s104, s105, s106, s107, s108, s109, s110, s111, s112, s113, s114, s115, s116, s117, s118, s119, s120, s121, s122, s123, s124, s125, s126, s127, s128, s129, s130, s131, s132, s133, s134, s135, s136, s137, s138, s139, s140, s141, s142, s143, s144, s145, s146, s147, s148, s149, s150, s151, s152, s153, s154, s155, s156, s157, s158, s159, s160, s161, s162, s163, s164, s165, s166, s167, s168, s169, s170, s171, s172, s173, s174, s175, s176, s177, s178, s179, s180, s181, s182, s183, s184, s185, s186, s187, s188, s189, s190, s191, s192, s193, s194, s195, s196, s197, s198, s199, s200, s201, s202, s203, s204, s205, s206, s207, s208, s209, s210, s211], []⟩ w := by
  have HST : Hid (St w3 lb plen c base es a cap w) := hst
  have hel : es.length ≤ 4096 := Nat.le_trans hst.len (Nat.le_trans hst.cp hst.p4)
  have hb0 := hst.b0
  have hbT := hst.bT
  clear hst
  by_cases hr : 0 < req
  · have HB : Hid (termOf base es (req - 1) = (bt, bf)) := hb hr
    clear hb
    cases bf
    all_goals
      conv => arg 2; whnf
      go_wp2_with fail
      refine (zzterm_all lb base es (sumN es) a cap (req - 1) bt _ w HST.out.log hb0 (by omega) (by omega) HB.out).mono ?_
      rintro e w' ⟨rfl, q, rfl⟩
      go_wp2
      exact hQ c _ ⟨base, es, a, cap, HST.out.drewN q⟩
  · clear hb
    conv => arg 2; whnf
    go_wp2
    exact hQ c _ ⟨base, es, a, cap, HST.out⟩


set_option maxHeartbeats 1000000 in
set_option maxRecDepth 100000 in
theorem p53 {s0 s1 s2 s3 s4 s5 s6 s11 s12 s14 s15 s18 s19 s20 s21 s22 s23 s24 s25 s26 s27 s28 s29 s30 s31 s32 s33 s34 s35 s36 s37 s38 s39 s40 s41 s42 s43 s44 s45 s46 s47 s48 s49 s50 s51 s52 s53 s54 s55 s56 s57 s58 s59 s60 s61 s62 s63 s64 s65 s66 s67 s68 s69 s70 s71 s72 s73 s74 s75 s76 s77 s78 s79 s80 s81 s82 s83 s84 s85 s86 s87 s88 s89 s90 s91 s92 s93 s94 s95 s96 s97 s98 s99 s100 s101 s102 s103 s104 s105 s106 s107 s108 s109 s110 s111 s112 s113 s114 s115 s116 s117 s118 s119 s120 s121 s122 s123 s124 s125 s126 s127 s128 s129 s130 s131 s132 s133 s134 s135 s136 s137 s138 s139 s140 s141 s142 s143 s144 s145 s146 s147 s148 s149 s150 s151 s152 s153 s154 s155 s156 s157 s158 s159 s160 s161 s162 s163 s164 s165 s166 s167 s168 s169 s170 s171 s172 s173 s174 s175 s176 s177 s178 s179 s180 s181 s182 s183 s184 s185 s186 s187 s188 s189 s190 s191 s192 s193 s194 s195 s196 s197 s198 s199 s200 s201 s202 s203 s204 s205 s206 s207 s208 s209 s210 s211 : Value} {Q : Exit → Act → World → Prop} (w3 : World) (lb plen j : Nat) (c : Nat) (base : Int) (es : List (Int × Int)) (a : Option Addr) (cap : Nat) (req bt : Int) (bf : Bool) (cnt : Nat) (w : World) (hst : St w3 lb plen c base es a cap w) (hq0 : 0 ≤ req) (hqT : req ≤ 18446744073707454463) (hcnt : cnt ≤ 4096) (hp : termOf base es (req + cnt) = (0, false)) (hb : 0 < req → termOf base es (req - 1) = (bt, bf))
    (hQ : Done Q w3 lb plen j s0 s1 s2 s3 s4 s5 s28 s29 s30 s31 s32 s33 s34 s35 s36 s37 s38 s39 s40 s41 s42 s43 s44 s45 s46 s47 s48 s49 s50 s51 s52 s53 s54 s55 s56 s57 s58 s59 s60 s61 s62 s63 s64 s65 s66 s67 s68 s69) :
    Code.wp Trym.prog (sub [1, 1, 1, 1, 1, 1, 1, 1, 1, 0, 1, 0, 0, 1, 0, 0, 1, 1, 1, 1, 1, 1, 1, 1, 1, 1, 1, 1, 1, 1, 1, 1, 1, 1, 1] (Trym.f5.body.getD .skip)) Q ⟨#[s0, s1, s2, s3, s4, s5, s6, .pointer (some ⟨lb, 0, none⟩), .int .i64 c, .int .i64 j, .int .u64 req, s11, s12, .int .i64 cnt, s14, s15, .int .u64 bt, .bool bf, s18, s19, s20, s21, s22, s23, s24, s25, s26, s27, s28, s29, s30, s31, s32, s33, s34, s35, s36, s37, s38, s39, s40, s41, s42, s43, s44, s45, s46, s47, s48, s49, s50, s51, s52, s53, s54, s55, s56, s57, s58, s59, s60, s61, s62, s63, s64, s65, s66, s67, s68, s69, s70, s71, s72, s73, s74, s75, s76, s77, s78, s79, s80, s81, s82, s83, s84, s85, s86, s87, s88, s89, s90, s91, s92, s93, s94, s95, s96, s97, s98, s99, s100, s101, s102, s103, s104, s105, s106, s107, s108, s109, s110, s111, s112, s113, s114, s115, s116, s117, s118, s119, s120, s121, s122, s123, s124, s125, s126, s127, s128, s129, s130, s131, s132, s133, s134, s135, s136, s137, s138, s139, s140, s141, s142, s143, s144, s145, s146, s147, s148, s149, s150, s151, s152, s153, s154, s155, s156, s157, s158, s159, s160, s161, s162, s163, s164, s165, s166, s167, s168, s169, s170, s171, s172, s173, s174, s175, s176, s177, s178, s179, s180, s181, s182, s183, s184, s185, s186, s187, s188, s189, s190, s191, s192, s193, s194, s195, s196, s197, s198, s199, s200, s201, s202, s203, s204, s205, s206, s207, s208, s209, s210, s211], []⟩ w := by
  have HST : Hid (St w3 lb plen c base es a cap w) := hst
  have hel : es.length ≤ 4096 := Nat.le_trans hst.len (Nat.le_trans hst.cp hst.p4)
  have hb0 := hst.b0
  have hbT := hst.bT
  clear hst
  have HP : Hid (termOf base es (req + cnt) = (0, false)) := hp
  have HB : Hid (0 < req → termOf base es (req - 1) = (bt, bf)) := hb
  clear hp hb
  conv => arg 2; whnf
  refine wp_seq_k fun K hK => ?_
  have HK : Hid (∀ a w, Code.wp Trym.prog _ Q a w → K a w) := hK
  clear hK
  go_wp2_with fail
  refine (zzterm_all lb base es (sumN es) a cap (req + cnt) 0 false w HST.out.log hb0 (by omega) (by omega) HP.out).mono ?_
  rintro e w' ⟨rfl, q, rfl⟩
  go_wp2
  exact HK.out _ _ (p56 w3 lb plen j c base es a cap req bt bf _ (HST.out.drewN q) hq0 hqT HB.out hQ)


end Go.Proofs.Qxb6001495aMods.L
