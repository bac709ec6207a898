import Derived.Test.Qxb6001495aModsS4
namespace Go.Proofs.Qxb6001495aMods.L
open Go.RowKit

set_option maxHeartbeats 1000000 in
set_option maxRecDepth 100000 in
theorem p28 {s0 s1 s3 s4 s5 s6 s11 s12 s14 s15 s16 s17 s18 s19 s20 s21 s22 s23 s24 s25 s26 s27 s28 s29 s30 s31 s32 s33 s34 s35 s36 s37 s38 s39 s40 s41 s42 s43 s44 s45 s46 s47 s48 s49 s50 s51 s52 s53 s54 s55 s56 s57 s58 s59 s60 s61 s62 s63 s64 s65 s66 s67 s68 s69 s70 s71 s72 s73 s74 s75 s76 s77 s78 s79 s80 s81 s82 s83 s84 s85 s86 s87 s88 s89 s90 s91 s92 s93 s94 s95 s96 s97 s98 s99 s100 s101 s102 s103 s104 s105 s106 s107 s108 s109 s110 s111 s112 s113 s114 s115 s116 s117 s118 s119 s120 s121 s122 s123 s124 s125 s126 s127 s128 s129 s130 s131 s132 s133 s134 s135 s136 s137 s138 s139 s140 s141 s142 s143 s144 s145 s146 s147 s148 s149 s150 s151 s152 s153 s154 s155 s156 s157 s158 s159 s160 s161 s162 s163 s164 s165 s166 s167 s168 s169 s170 s171 s172 s173 s174 s175 s176 s177 s178 s179 s180 s181 s182 s183 s184 s185 s186 s187 s188 s189 s190 s191 s192 s193 s194 s195 s196 s197 s198 s199 s200 s201 s202 s203 s204 s205 s206 s207 s208 s209 s210 s211 : Value} {Q : Exit → Act → World → Prop} (w3 : World) (lb plen j : Nat) (c : Nat) (base : Int) (es : List (Int × Int)) (a : Option Addr) (cap : Nat) (req : Int) (cnt : Nat) (b2 : Option Addr) (pool : List Int) (w : World) (hst : St w3 lb plen c base es a cap w) (hrow : Row (Value.int .u32) 0 w3 b2 pool.length pool) (h3 : w3.heap.size ≤ lb) (hpl : pool.length = plen) (hpb : ∀ z ∈ pool, 0 ≤ z ∧ z ≤ 4294967295) (hacc : Acc base es req) (hq0 : 0 ≤ req) (hqT : req ≤ 18446744073707454463) (hcnt : c + cnt ≤ plen) (hj : j ≤ 4096)
    (hQ : Done Q w3 lb plen j s0 s1 (.slice b2 pool.length pool.length) s3 s4 s5 s28 s29 s30 s31 s32 s33 s34 s35 s36 s37 s38 s39 s40 s41 s42 s43 s44 s45 s46 s47 s48 s49 s50 s51 s52 s53 s54 s55 s56 s57 s58 s59 s60 s61 s62 s63 s64 s65 s66 s67 s68 s69) :
    Code.wp Trym.prog (sub [1, 1, 1, 1, 1, 1, 1, 1, 1, 0, 1, 0, 0, 1, 0, 0, 1, 1, 1, 1, 1, 1, 1] (Trym.f5.body.getD .skip)) Q ⟨#[s0, s1, .slice b2 pool.length pool.length, s3, s4, s5, s6, .pointer (some ⟨lb, 0, none⟩), .int .i64 c, .int .i64 j, .int .u64 req, s11, s12, .int .i64 cnt, s14, s15, s16, s17, s18, s19, s20, s21, s22, s23, s24, s25, s26, s27, s28, s29, s30, s31, s32, s33, s34, s35, s36, s37, s38, s39, s40, s41, s42, s43, s44, s45, s46, s47, s48, s49, s50, s51, s52, s53, s54, s55, s56, s57, s58, s59, s60, s61, s62, s63, s64, s65, s66, s67, s68, s69, s70, s71, s72, s73, s74, s75, s76, s77, s78, s79, s80, s81, s82, s83, s84, s85, s86, s87, s88, s89, s90, s91, s92, s93, s94, s95, s96, s97, s98, s99, s100, s101, s102, s103, s104, s105, s106, s107, s108, s109, s110, s111, s112, s113, s114, s115, s116, s117, s118, s119, s120, s121, s122, s123, s124, s125, s126, s127, s128, s129, s130, s131, s132, s133, s134, s135, s136, s137, s138, s139, s140, s141, s142, s143, s144, s145, s146, s147, s148, s149, s150, s151, s152, s153, s154, s155, s156, s157, s158, s159, s160, s161, s162, s163, s164, s165, s166, s167, s168, s169, s170, s171, s172, s173, s174, s175, s176, s177, s178, s179, s180, s181, s182, s183, s184, s185, s186, s187, s188, s189, s190, s191, s192, s193, s194, s195, s196, s197, s198, s199, s200, s201, s202, s203, s204, s205, s206, s207, s208, s209, s210, s211], []⟩ w := by
  have hp4 := hst.p4
  have hc2 : cnt ≤ 4096 := by omega
  have HST : Hid (St w3 lb plen c base es a cap w) := hst
  have hel : es.length ≤ 4096 := Nat.le_trans hst.len (Nat.le_trans hst.cp hst.p4)
  have hb0 := hst.b0
  have hbT := hst.bT
  clear hst
  have HR : Hid (Row (Value.int .u32) 0 w3 b2 pool.length pool) := hrow
  have HPL : Hid (pool.length = plen) := hpl
  have HPB : Hid (∀ z ∈ pool, 0 ≤ z ∧ z ≤ 4294967295) := hpb
  have HACC : Hid (Acc base es req) := hacc
  have hlb := lt_of_block HST.out.log.box
  clear hrow hpl hpb hacc
  obtain ⟨i0, hi, hz0, hz1, hz2⟩ := info_parts info43
  conv => arg 2; whnf
  refine wp_seq_k fun K hK => ?_
  have HK : Hid (∀ a w, Code.wp Trym.prog _ Q a w → K a w) := hK
  clear hK
  go_wp2_with (first
    | (at_make; refine wpList_make_own _ rfl _ _ 32 rfl lb 43 i0 (.agg #[.int .u64 0, .int .i64 0, .int .u32 0, .int .u32 0]) 4 Trym.underlying32 hi hz0 hz1 _ _ _ cnt rfl rfl (by omega) (by rw [hz2]; omega) (by unfold maxLen; omega) (by omega) ?_))
  intro w1 hown1 hg1
  have HRF : Hid (Refs w3 lb plen c base es a cap w.heap.size [] cnt w1) := ⟨HST.out.grown hg1 (by simp) (by cases (Value.slice a es.length cap).ownBlock <;> simp) (fun k e => by cases e), hown1, HST.out.ne_new⟩
  clear hown1 hg1
  go_wp2
  exact HK.out _ _ (p29 w3 lb plen j c base es a cap req w.heap.size cnt b2 pool _ HRF.out HR.out h3 HPL.out HPB.out HACC.out hq0 hqT hcnt hj hQ)


set_option maxHeartbeats 1000000 in
set_option maxRecDepth 100000 in
theorem p26 {s0 s1 s3 s4 s5 s6 s11 s12 s14 s15 s16 s17 s18 s19 s20 s21 s22 s23 s24 s25 s26 s27 s28 s29 s30 s31 s32 s33 s34 s35 s36 s37 s38 s39 s40 s41 s42 s43 s44 s45 s46 s47 s48 s49 s50 s51 s52 s53 s54 s55 s56 s57 s58 s59 s60 s61 s62 s63 s64 s65 s66 s67 s68 s69 s70 s71 s72 s73 s74 s75 s76 s77 s78 s79 s80 s81 s82 s83 s84 s85 s86 s87 s88 s89 s90 s91 s92 s93 s94 s95 s96 s97 s98 s99 s100 s101 s102 s103 s104 s105 s106 s107 s108 s109 s110 s111 s112 s113 s114 s115 s116 s117 s118 s119 s120 s121 s122 s123 s124 s125 s126 s127 s128 s129 s130 s131 s132 s133 s134 s135 s136 s137 s138 s139 s140 s141 s142 s143 s144 s145 s146 s147 s148 s149 s150 s151 s152 s153 s154 s155 s156 s157 s158 s159 s160 s161 s162 s163 s164 s165 s166 s167 s168 s169 s170 s171 s172 s173 s174 s175 s176 s177 s178 s179 s180 s181 s182 s183 s184 s185 s186 s187 s188 s189 s190 s191 s192 s193 s194 s195 s196 s197 s198 s199 s200 s201 s202 s203 s204 s205 s206 s207 s208 s209 s210 s211 : Value} {Q : Exit → Act → World → Prop} (w3 : World) (lb plen j : Nat) (c : Nat) (base : Int) (es : List (Int × Int)) (a : Option Addr) (cap : Nat) (req : Int) (c1 : Nat) (b2 : Option Addr) (pool : List Int) (w : World) (hst : St w3 lb plen c base es a cap w) (hrow : Row (Value.int .u32) 0 w3 b2 pool.length pool) (h3 : w3.heap.size ≤ lb) (hpl : pool.length = plen) (hpb : ∀ z ∈ pool, 0 ≤ z ∧ z ≤ 4294967295) (hacc : Acc base es req) (hq0 : 0 ≤ req) (hqT : req ≤ 18446744073707454463) (hc1 : c1 ≤ 255) (hj : j ≤ 4096)
    (hQ : Done Q w3 lb plen j s0 s1 (.slice b2 pool.length pool.length) s3 s4 s5 s28 s29 s30 s31 s32 s33 s34 s35 s36 s37 s38 s39 s40 s41 s42 s43 s44 s45 s46 s47 s48 s49 s50 s51 s52 s53 s54 s55 s56 s57 s58 s59 s60 s61 s62 s63 s64 s65 s66 s67 s68 s69) :
    Code.wp Trym.prog (sub [1, 1, 1, 1, 1, 1, 1, 1, 1, 0, 1, 0, 0, 1, 0, 0, 1, 1, 1, 1, 1, 1] (Trym.f5.body.getD .skip)) Q ⟨#[s0, s1, .slice b2 pool.length pool.length, s3, s4, s5, s6, .pointer (some ⟨lb, 0, none⟩), .int .i64 c, .int .i64 j, .int .u64 req, s11, s12, .int .i64 c1, s14, s15, s16, s17, s18, s19, s20, s21, s22, s23, s24, s25, s26, s27, s28, s29, s30, s31, s32, s33, s34, s35, s36, s37, s38, s39, s40, s41, s42, s43, s44, s45, s46, s47, s48, s49, s50, s51, s52, s53, s54, s55, s56, s57, s58, s59, s60, s61, s62, s63, s64, s65, s66, s67, s68, s69, s70, s71, s72, s73, s74, s75, s76, s77, s78, s79, s80, s81, s82, s83, s84, s85, s86, s87, s88, s89, s90, s91, s92, s93, s94, s95, s96, s97, s98, s99, s100, s101, s102, s103, s104, s105, s106, s107, s108, s109, s110, s111, s112, s113, s114, s115, s116, s117, s118, s119, s120, s121, s122, s123, s124, s125, s126, s127, s128, s129, s130, s131, s132, s133, s134, s135, s136, s137, s138, s139, s140, s141, s142, s143, s144, s145, s146, s147, s148, s149, s150, s151, s152, s153, s154, s155, s156, s157, s158, s159, s160, s161, s162, s163, s164, s165, s166, s167, s168, s169, s170, s171, s172, s173, s174, s175, s176, s177, s178, s179, s180, s181, s182, s183, s184, s185, s186, s187, s188, s189, s190, s191, s192, s193, s194, s195, s196, s197, s198, s199, s200, s201, s202, s203, s204, s205, s206, s207, s208, s209, s210, s211], []⟩ w := by
  have hp4 := hst.p4
  have hcp := hst.cp
  have HST : Hid (St w3 lb plen c base es a cap w) := hst
  have hel : es.length ≤ 4096 := Nat.le_trans hst.len (Nat.le_trans hst.cp hst.p4)
  have hb0 := hst.b0
  have hbT := hst.bT
  clear hst
  have HR : Hid (Row (Value.int .u32) 0 w3 b2 pool.length pool) := hrow
  have HPL : Hid (pool.length = plen) := hpl
  have HPB : Hid (∀ z ∈ pool, 0 ≤ z ∧ z ≤ 4294967295) := hpb
  have HACC : Hid (Acc base es req) := hacc
  have hpn : pool.length ≤ 4096 := by omega
  have hcl : c ≤ pool.length := by omega
  clear hrow hpl hpb hacc
  conv => arg 2; whnf
  refine wp_seq_k fun K hK => ?_
  have HK : Hid (∀ a w, Code.wp Trym.prog _ Q a w → K a w) := hK
  clear hK
  by_cases hc : pool.length - c < c1
  · obtain ⟨d, hd⟩ : ∃ d : Nat, d = pool.length - c := ⟨_, rfl⟩
    have hdI : (pool.length : Int) - (c : Int) = (d : Int) := by omega
    have hdc : (d : Int) < (c1 : Int) := by omega
    have HD : Hid (d = pool.length - c) := hd
    clear hd hc
    go_wp2
    exact HK.out _ _ (p28 w3 lb plen j c base es a cap req d b2 pool _ HST.out HR.out h3 HPL.out HPB.out HACC.out hq0 hqT (by have := HD.out; have := HPL.out; omega) hj hQ)
  · have hcI : ¬ ((pool.length : Int) - (c : Int) < (c1 : Int)) := by omega
    go_wp2
    exact HK.out _ _ (p28 w3 lb plen j c base es a cap req c1 b2 pool _ HST.out HR.out h3 HPL.out HPB.out HACC.out hq0 hqT (by have := HPL.out; omega) hj hQ)


set_option maxHeartbeats 1000000 in
set_option maxRecDepth 100000 in
theorem p24 {s0 s3 s4 s5 s6 s11 s12 s14 s15 s16 s17 s18 s19 s20 s21 s22 s23 s24 s25 s26 s27 s28 s29 s30 s31 s32 s33 s34 s35 s36 s37 s38 s39 s40 s41 s42 s43 s44 s45 s46 s47 s48 s49 s50 s51 s52 s53 s54 s55 s56 s57 s58 s59 s60 s61 s62 s63 s64 s65 s66 s67 s68 s69 s70 s71 s72 s73 s74 s75 s76 s77 s78 s79 s80 s81 s82 s83 s84 s85 s86 s87 s88 s89 s90 s91 s92 s93 s94 s95 s96 s97 s98 s99 s100 s101 s102 s103 s104 s105 s106 s107 s108 s109 s110 s111 s112 s113 s114 s115 s116 s117 s118 s119 s120 s121 s122 s123 s124 s125 s126 s127 s128 s129 s130 s131 s132 s133 s134 s135 s136 s137 s138 s139 s140 s141 s142 s143 s144 s145 s146 s147 s148 s149 s150 s151 s152 s153 s154 s155 s156 s157 s158 s159 s160 s161 s162 s163 s164 s165 s166 s167 s168 s169 s170 s171 s172 s173 s174 s175 s176 s177 s178 s179 s180 s181 s182 s183 s184 s185 s186 s187 s188 s189 s190 s191 s192 s193 s194 s195 s196 s197 s198 s199 s200 s201 s202 s203 s204 s205 s206 s207 s208 s209 s210 s211 : Value} {Q : Exit → Act → World → Prop} (w3 : World) (lb plen j : Nat) (c : Nat) (base : Int) (es : List (Int × Int)) (a : Option Addr) (cap : Nat) (req : Int) (b1 b2 : Option Addr) (cts pool : List Int) (w : World) (hst : St w3 lb plen c base es a cap w) (hrow1 : Row (Value.int .u8) 0 w3 b1 cts.length cts) (hcl : cts.length ≤ 4096) (hcb : ∀ z ∈ cts, 0 ≤ z ∧ z ≤ 255) (hrow : Row (Value.int .u32) 0 w3 b2 pool.length pool) (h3 : w3.heap.size ≤ lb) (hpl : pool.length = plen) (hpb : ∀ z ∈ pool, 0 ≤ z ∧ z ≤ 4294967295) (hacc : Acc base es req) (hq0 : 0 ≤ req) (hqT : req ≤ 18446744073707454463) (hj : j ≤ 4096)
    (hQ : Done Q w3 lb plen j s0 (.slice b1 cts.length cts.length) (.slice b2 pool.length pool.length) s3 s4 s5 s28 s29 s30 s31 s32 s33 s34 s35 s36 s37 s38 s39 s40 s41 s42 s43 s44 s45 s46 s47 s48 s49 s50 s51 s52 s53 s54 s55 s56 s57 s58 s59 s60 s61 s62 s63 s64 s65 s66 s67 s68 s69) :
    Code.wp Trym.prog (sub [1, 1, 1, 1, 1, 1, 1, 1, 1, 0, 1, 0, 0, 1, 0, 0, 1, 1, 1, 1, 1] (Trym.f5.body.getD .skip)) Q ⟨#[s0, .slice b1 cts.length cts.length, .slice b2 pool.length pool.length, s3, s4, s5, s6, .pointer (some ⟨lb, 0, none⟩), .int .i64 c, .int .i64 j, .int .u64 req, s11, s12, .int .i64 0, s14, s15, s16, s17, s18, s19, s20, s21, s22, s23, s24, s25, s26, s27, s28, s29, s30, s31, s32, s33, s34, s35, s36, s37, s38, s39, s40, s41, s42, s43, s44, s45, s46, s47, s48, s49, s50, s51, s52, s53, s54, s55, s56, s57, s58, s59, s60, s61, s62, s63, s64, s65, s66, s67, s68, s69, s70, s71, s72, s73, s74, s75, s76, s77, s78, s79, s80, s81, s82, s83, s84, s85, s86, s87, s88, s89, s90, s91, s92, s93, s94, s95, s96, s97, s98, s99, s100, s101, s102, s103, s104, s105, s106, s107, s108, s109, s110, s111, s112, s113, s114, s115, s116, s117, s118, s119, s120, s121, s122, s123, s124, s125, s126, s127, s128, s129, s130, s131, s132, s133, s134, s135, s136, s137, s138, s139, s140, s141, s142, s143, s144, s145, s146, s147, s148, s149, s150, s151, s152, s153, s154, s155, s156, s157, s158, s159, s160, s161, s162, s163, s164, s165, s166, s167, s168, s169, s170, s171, s172, s173, s174, s175, s176, s177, s178, s179, s180, s181, s182, s183, s184, s185, s186, s187, s188, s189, s190, s191, s192, s193, s194, s195, s196, s197, s198, s199, s200, s201, s202, s203, s204, s205, s206, s207, s208, s209, s210, s211], []⟩ w := by
  have HST : Hid (St w3 lb plen c base es a cap w) := hst
  have hel : es.length ≤ 4096 := Nat.le_trans hst.len (Nat.le_trans hst.cp hst.p4)
  have hb0 := hst.b0
  have hbT := hst.bT
  clear hst
  have HR : Hid (Row (Value.int .u32) 0 w3 b2 pool.length pool) := hrow
  have HPL : Hid (pool.length = plen) := hpl
  have HPB : Hid (∀ z ∈ pool, 0 ≤ z ∧ z ≤ 4294967295) := hpb
  have HACC : Hid (Acc base es req) := hacc
  have HR1 : Hid (Row (Value.int .u8) 0 w3 b1 cts.length cts) := hrow1
  have HCB : Hid (∀ z ∈ cts, 0 ≤ z ∧ z ≤ 255) := hcb
  clear hrow hpl hpb hacc hrow1 hcb
  conv => arg 2; whnf
  refine wp_seq_k fun K hK => ?_
  have HK : Hid (∀ a w, Code.wp Trym.prog _ Q a w → K a w) := hK
  clear hK
  by_cases hc : j < cts.length
  · obtain ⟨q1, o1, rfl, hq1, hcell⟩ := HR1.out.at_pos (by omega)
    have hcx : w.cell? ⟨q1, o1 + j, none⟩ = some (.int .u8 (cts.getD j 0)) := (HST.out.bel.cell (p := ⟨q1, o1 + j, none⟩) (by show q1 < lb; omega)).trans (hcell.out j hc)
    have hzb : 0 ≤ cts.getD j 0 ∧ cts.getD j 0 ≤ 255 := by
      rw [List.getD, List.getElem?_eq_getElem hc]; exact HCB.out _ (List.getElem_mem _)
    obtain ⟨c1, hc1⟩ : ∃ c1 : Nat, cts.getD j 0 = (c1 : Int) := ⟨(cts.getD j 0).toNat, by omega⟩
    rw [hc1] at hcx hzb
    clear hc1
    go_wp2
    exact HK.out _ _ (p26 w3 lb plen j c base es a cap req c1 b2 pool _ HST.out HR.out h3 HPL.out HPB.out HACC.out hq0 hqT (by omega) hj hQ)
  · have hcI : ¬ ((j : Int) < (cts.length : Int)) := by omega
    go_wp2
    exact HK.out _ _ (p26 w3 lb plen j c base es a cap req 0 b2 pool _ HST.out HR.out h3 HPL.out HPB.out HACC.out hq0 hqT (by omega) hj hQ)


set_option maxHeartbeats 1000000 in
set_option maxRecDepth 100000 in
theorem p19 {s0 s3 s4 s5 s6 s12 s13 s14 s15 s16 s17 s18 s19 s20 s21 s22 s23 s24 s25 s26 s27 s28 s29 s30 s31 s32 s33 s34 s35 s36 s37 s38 s39 s40 s41 s42 s43 s44 s45 s46 s47 s48 s49 s50 s51 s52 s53 s54 s55 s56 s57 s58 s59 s60 s61 s62 s63 s64 s65 s66 s67 s68 s69 s70 s71 s72 s73 s74 s75 s76 s77 s78 s79 s80 s81 s82 s83 s84 s85 s86 s87 s88 s89 s90 s91 s92 s93 s94 s95 s96 s97 s98 s99 s100 s101 s102 s103 s104 s105 s106 s107 s108 s109 s110 s111 s112 s113 s114 s115 s116 s117 s118 s119 s120 s121 s122 s123 s124 s125 s126 s127 s128 s129 s130 s131 s132 s133 s134 s135 s136 s137 s138 s139 s140 s141 s142 s143 s144 s145 s146 s147 s148 s149 s150 s151 s152 s153 s154 s155 s156 s157 s158 s159 s160 s161 s162 s163 s164 s165 s166 s167 s168 s169 s170 s171 s172 s173 s174 s175 s176 s177 s178 s179 s180 s181 s182 s183 s184 s185 s186 s187 s188 s189 s190 s191 s192 s193 s194 s195 s196 s197 s198 s199 s200 s201 s202 s203 s204 s205 s206 s207 s208 s209 s210 s211 : Value} {Q : Exit → Act → World → Prop} (w3 : World) (lb plen j : Nat) (c : Nat) (base : Int) (es : List (Int × Int)) (a : Option Addr) (cap : Nat) (r1 : Int) (b1 b2 : Option Addr) (cts pool : List Int) (w : World) (hst : St w3 lb plen c base es a cap w) (hrow1 : Row (Value.int .u8) 0 w3 b1 cts.length cts) (hcl : cts.length ≤ 4096) (hcb : ∀ z ∈ cts, 0 ≤ z ∧ z ≤ 255) (hrow : Row (Value.int .u32) 0 w3 b2 pool.length pool) (h3 : w3.heap.size ≤ lb) (hpl : pool.length = plen) (hpb : ∀ z ∈ pool, 0 ≤ z ∧ z ≤ 4294967295) (hq0 : 0 ≤ r1) (hqT : r1 ≤ 18446744073707454463) (hj : j ≤ 4096)
    (hQ : Done Q w3 lb plen j s0 (.slice b1 cts.length cts.length) (.slice b2 pool.length pool.length) s3 s4 s5 s28 s29 s30 s31 s32 s33 s34 s35 s36 s37 s38 s39 s40 s41 s42 s43 s44 s45 s46 s47 s48 s49 s50 s51 s52 s53 s54 s55 s56 s57 s58 s59 s60 s61 s62 s63 s64 s65 s66 s67 s68 s69) :
    Code.wp Trym.prog (sub [1, 1, 1, 1, 1, 1, 1, 1, 1, 0, 1, 0, 0, 1, 0, 0, 1, 1, 1] (Trym.f5.body.getD .skip)) Q ⟨#[s0, .slice b1 cts.length cts.length, .slice b2 pool.length pool.length, s3, s4, s5, s6, .pointer (some ⟨lb, 0, none⟩), .int .i64 c, .int .i64 j, .int .u64 r1, .int .i64 es.length, s12, s13, s14, s15, s16, s17, s18, s19, s20, s21, s22, s23, s24, s25, s26, s27, s28, s29, s30, s31, s32, s33, s34, s35, s36, s37, s38, s39, s40, s41, s42, s43, s44, s45, s46, s47, s48, s49, s50, s51, s52, s53, s54, s55, s56, s57, s58, s59, s60, s61, s62, s63, s64, s65, s66, s67, s68, s69, s70, s71, s72, s73, s74, s75, s76, s77, s78, s79, s80, s81, s82, s83, s84, s85, s86, s87, s88, s89, s90, s91, s92, s93, s94, s95, s96, s97, s98, s99, s100, s101, s102, s103, s104, s105, s106, s107, s108, s109, s110, s111, s112, s113, s114, s115, s116, s117, s118, s119, s120, s121, s122, s123, s124, s125, s126, s127, s128, s129, s130, s131, s132, s133, s134, s135, s136, s137, s138, s139, s140, s141, s142, s143, s144, s145, s146, s147, s148, s149, s150, s151, s152, s153, s154, s155, s156, s157, s158, s159, s160, s161, s162, s163, s164, s165, s166, s167, s168, s169, s170, s171, s172, s173, s174, s175, s176, s177, s178, s179, s180, s181, s182, s183, s184, s185, s186, s187, s188, s189, s190, s191, s192, s193, s194, s195, s196, s197, s198, s199, s200, s201, s202, s203, s204, s205, s206, s207, s208, s209, s210, s211], []⟩ w := by
  have HST : Hid (St w3 lb plen c base es a cap w) := hst
  have hel : es.length ≤ 4096 := Nat.le_trans hst.len (Nat.le_trans hst.cp hst.p4)
  have hb0 := hst.b0
  have hbT := hst.bT
  clear hst
  have HR : Hid (Row (Value.int .u32) 0 w3 b2 pool.length pool) := hrow
  have HPL : Hid (pool.length = plen) := hpl
  have HPB : Hid (∀ z ∈ pool, 0 ≤ z ∧ z ≤ 4294967295) := hpb
  have HR1 : Hid (Row (Value.int .u8) 0 w3 b1 cts.length cts) := hrow1
  have HCB : Hid (∀ z ∈ cts, 0 ≤ z ∧ z ≤ 255) := hcb
  clear hrow hpl hpb hrow1 hcb
  obtain ⟨L, hL⟩ : ∃ L, L = es.length := ⟨_, rfl⟩
  have HL : Hid (L = es.length) := hL
  rw [← hL] at hel ⊢
  clear hL
  conv => arg 2; whnf
  refine wp_seq_k fun K hK => ?_
  have HK : Hid (∀ a w, Code.wp Trym.prog _ Q a w → K a w) := hK
  clear hK
  by_cases hn : 0 < L
  · by_cases ht : base + L < r1
    · go_wp2_with fail
      refine (base_any lb base es (sumN es) a cap w HST.out.log).mono ?_
      rintro e w' ⟨rfl, rfl⟩
      go_wp2
      refine HK.out _ _ ?_
      refine wp_seq_k fun K2 hK2 => ?_
      have HK2 : Hid (∀ a w, Code.wp Trym.prog _ Q a w → K2 a w) := hK2
      clear hK2
      go_wp2
      exact HK2.out _ _ (p24 w3 lb plen j c base es a cap (base + L) b1 b2 cts pool _ HST.out HR1.out hcl HCB.out HR.out h3 HPL.out HPB.out (fun _ => by have := HL.out; omega) (by omega) (by omega) hj hQ)
    · go_wp2_with fail
      refine (base_any lb base es (sumN es) a cap w HST.out.log).mono ?_
      rintro e w' ⟨rfl, rfl⟩
      go_wp2
      refine HK.out _ _ ?_
      refine wp_seq_k fun K2 hK2 => ?_
      have HK2 : Hid (∀ a w, Code.wp Trym.prog _ Q a w → K2 a w) := hK2
      clear hK2
      go_wp2
      exact HK2.out _ _ (p24 w3 lb plen j c base es a cap r1 b1 b2 cts pool _ HST.out HR1.out hcl HCB.out HR.out h3 HPL.out HPB.out (fun _ => by have := HL.out; omega) hq0 hqT hj hQ)
  · have hnI : ¬ ((0 : Int) < (L : Int)) := by omega
    go_wp2
    refine HK.out _ _ ?_
    refine wp_seq_k fun K2 hK2 => ?_
    have HK2 : Hid (∀ a w, Code.wp Trym.prog _ Q a w → K2 a w) := hK2
    clear hK2
    go_wp2
    exact HK2.out _ _ (p24 w3 lb plen j c base es a cap r1 b1 b2 cts pool _ HST.out HR1.out hcl HCB.out HR.out h3 HPL.out HPB.out (fun h => by have := HL.out; omega) hq0 hqT hj hQ)


set_option maxHeartbeats 1000000 in
set_option maxRecDepth 100000 in
theorem p16 {s0 s3 s4 s5 s6 s11 s12 s13 s14 s15 s16 s17 s18 s19 s20 s21 s22 s23 s24 s25 s26 s27 s28 s29 s30 s31 s32 s33 s34 s35 s36 s37 s38 s39 s40 s41 s42 s43 s44 s45 s46 s47 s48 s49 s50 s51 s52 s53 s54 s55 s56 s57 s58 s59 s60 s61 s62 s63 s64 s65 s66 s67 s68 s69 s70 s71 s72 s73 s74 s75 s76 s77 s78 s79 s80 s81 s82 s83 s84 s85 s86 s87 s88 s89 s90 s91 s92 s93 s94 s95 s96 s97 s98 s99 s100 s101 s102 s103 s104 s105 s106 s107 s108 s109 s110 s111 s112 s113 s114 s115 s116 s117 s118 s119 s120 s121 s122 s123 s124 s125 s126 s127 s128 s129 s130 s131 s132 s133 s134 s135 s136 s137 s138 s139 s140 s141 s142 s143 s144 s145 s146 s147 s148 s149 s150 s151 s152 s153 s154 s155 s156 s157 s158 s159 s160 s161 s162 s163 s164 s165 s166 s167 s168 s169 s170 s171 s172 s173 s174 s175 s176 s177 s178 s179 s180 s181 s182 s183 s184 s185 s186 s187 s188 s189 s190 s191 s192 s193 s194 s195 s196 s197 s198 s199 s200 s201 s202 s203 s204 s205 s206 s207 s208 s209 s210 s211 : Value} {Q : Exit → Act → World → Prop} (w3 : World) (lb plen j : Nat) (c : Nat) (base : Int) (es : List (Int × Int)) (a : Option Addr) (cap : Nat) (v : Int) (b1 b2 : Option Addr) (cts pool : List Int) (w : World) (hst : St w3 lb plen c base es a cap w) (hrow1 : Row (Value.int .u8) 0 w3 b1 cts.length cts) (hcl : cts.length ≤ 4096) (hcb : ∀ z ∈ cts, 0 ≤ z ∧ z ≤ 255) (hrow : Row (Value.int .u32) 0 w3 b2 pool.length pool) (h3 : w3.heap.size ≤ lb) (hpl : pool.length = plen) (hpb : ∀ z ∈ pool, 0 ≤ z ∧ z ≤ 4294967295) (hq0 : 0 ≤ v) (hj : j ≤ 4096)
    (hQ : Done Q w3 lb plen j s0 (.slice b1 cts.length cts.length) (.slice b2 pool.length pool.length) s3 s4 s5 s28 s29 s30 s31 s32 s33 s34 s35 s36 s37 s38 s39 s40 s41 s42 s43 s44 s45 s46 s47 s48 s49 s50 s51 s52 s53 s54 s55 s56 s57 s58 s59 s60 s61 s62 s63 s64 s65 s66 s67 s68 s69) :
    Code.wp Trym.prog (sub [1, 1, 1, 1, 1, 1, 1, 1, 1, 0, 1, 0, 0, 1, 0, 0, 1] (Trym.f5.body.getD .skip)) Q ⟨#[s0, .slice b1 cts.length cts.length, .slice b2 pool.length pool.length, s3, s4, s5, s6, .pointer (some ⟨lb, 0, none⟩), .int .i64 c, .int .i64 j, .int .u64 v, s11, s12, s13, s14, s15, s16, s17, s18, s19, s20, s21, s22, s23, s24, s25, s26, s27, s28, s29, s30, s31, s32, s33, s34, s35, s36, s37, s38, s39, s40, s41, s42, s43, s44, s45, s46, s47, s48, s49, s50, s51, s52, s53, s54, s55, s56, s57, s58, s59, s60, s61, s62, s63, s64, s65, s66, s67, s68, s69, s70, s71, s72, s73, s74, s75, s76, s77, s78, s79, s80, s81, s82, s83, s84, s85, s86, s87, s88, s89, s90, s91, s92, s93, s94, s95, s96, s97, s98, s99, s100, s101, s102, s103, s104, s105, s106, s107, s108, s109, s110, s111, s112, s113, s114, s115, s116, s117, s118, s119, s120, s121, s122, s123, s124, s125, s126, s127, s128, s129, s130, s131, s132, s133, s134, s135, s136, s137, s138, s139, s140, s141, s142, s143, s144, s145, s146, s147, s148, s149, s150, s151, s152, s153, s154, s155, s156, s157, s158, s159, s160, s161, s162, s163, s164, s165, s166, s167, s168, s169, s170, s171, s172, s173, s174, s175, s176, s177, s178, s179, s180, s181, s182, s183, s184, s185, s186, s187, s188, s189, s190, s191, s192, s193, s194, s195, s196, s197, s198, s199, s200, s201, s202, s203, s204, s205, s206, s207, s208, s209, s210, s211], []⟩ w := by
  have HST : Hid (St w3 lb plen c base es a cap w) := hst
  have hel : es.length ≤ 4096 := Nat.le_trans hst.len (Nat.le_trans hst.cp hst.p4)
  have hb0 := hst.b0
  have hbT := hst.bT
  clear hst
  have HR : Hid (Row (Value.int .u32) 0 w3 b2 pool.length pool) := hrow
  have HPL : Hid (pool.length = plen) := hpl
  have HPB : Hid (∀ z ∈ pool, 0 ≤ z ∧ z ≤ 4294967295) := hpb
  have HR1 : Hid (Row (Value.int .u8) 0 w3 b1 cts.length cts) := hrow1
  have HCB : Hid (∀ z ∈ cts, 0 ≤ z ∧ z ≤ 255) := hcb
  clear hrow hpl hpb hrow1 hcb
  conv => arg 2; whnf
  refine wp_seq_k fun K hK => ?_
  have HK : Hid (∀ a w, Code.wp Trym.prog _ Q a w → K a w) := hK
  clear hK
  by_cases hn : 18446744073707454463 < v
  · go_wp2
    refine HK.out _ _ ?_
    refine wp_seq_k fun K2 hK2 => ?_
    have HK2 : Hid (∀ a w, Code.wp Trym.prog _ Q a w → K2 a w) := hK2
    clear hK2
    go_wp2_with fail
    refine (len_any lb base es (sumN es) a cap w HST.out.log).mono ?_
    rintro e w' ⟨rfl, rfl⟩
    go_wp2
    exact HK2.out _ _ (p19 w3 lb plen j c base es a cap 18446744073707454463 b1 b2 cts pool _ HST.out HR1.out hcl HCB.out HR.out h3 HPL.out HPB.out (by omega) (by omega) hj hQ)
  · go_wp2
    refine HK.out _ _ ?_
    refine wp_seq_k fun K2 hK2 => ?_
    have HK2 : Hid (∀ a w, Code.wp Trym.prog _ Q a w → K2 a w) := hK2
    clear hK2
    go_wp2_with fail
    refine (len_any lb base es (sumN es) a cap w HST.out.log).mono ?_
    rintro e w' ⟨rfl, rfl⟩
    go_wp2
    exact HK2.out _ _ (p19 w3 lb plen j c base es a cap v b1 b2 cts pool _ HST.out HR1.out hcl HCB.out HR.out h3 HPL.out HPB.out hq0 (by omega) hj hQ)


end Go.Proofs.Qxb6001495aMods.L
