import Derived.Test.Qxb6001495aModsS2
namespace Go.Proofs.Qxb6001495aMods.L
open Go.RowKit

set_option maxHeartbeats 1000000 in
set_option maxRecDepth 100000 in
theorem p38 {s0 s1 s2 s3 s4 s5 s6 s11 s12 s15 s18 s19 s20 s21 s22 s23 s24 s25 s26 s27 s28 s29 s30 s31 s32 s33 s34 s35 s36 s37 s38 s39 s40 s41 s42 s43 s44 s45 s46 s47 s48 s49 s50 s51 s52 s53 s54 s55 s56 s57 s58 s59 s60 s61 s62 s63 s64 s65 s66 s67 s68 s69 s70 s71 s72 s73 s74 s75 s76 s77 s78 s79 s80 s81 s82 s83 s84 s85 s86 s87 s88 s89 s90 s91 s92 s93 s94 s95 s96 s97 s98 s99 s100 s101 s102 s103 s104 s105 s106 s107 s108 s109 s110 s111 s112 s113 s114 s115 s116 s117 s118 s119 s120 s121 s122 s123 s124 s125 s126 s127 s128 s129 s130 s131 s132 s133 s134 s135 s136 s137 s138 s139 s140 s141 s142 s143 s144 s145 s146 s147 s148 s149 s150 s151 s152 s153 s154 s155 s156 s157 s158 s159 s160 s161 s162 s163 s164 s165 s166 s167 s168 s169 s170 s171 s172 s173 s174 s175 s176 s177 s178 s179 s180 s181 s182 s183 s184 s185 s186 s187 s188 s189 s190 s191 s192 s193 s194 s195 s196 s197 s198 s199 s200 s201 s202 s203 s204 s205 s206 s207 s208 s209 s210 s211 : Value} {Q : Exit → Act → World → Prop} (w3 : World) (lb plen j : Nat) (c : Nat) (base : Int) (es : List (Int × Int)) (a : Option Addr) (cap : Nat) (req bt : Int) (bf : Bool) (rb : Nat) (rs : List (Int × Int)) (rc : Nat) (w : World) (hst : St w3 lb plen c base es a cap w) (hrefs : w.ownsRow lb 43 4 (.slice (some ⟨rb, 0, none⟩) rs.length rc) rs.length (cellsL rs)) (hne : (Value.slice a es.length cap).ownBlock ≠ some rb) (hlr : Lens rs) (hterm : ∀ (i : Nat) (h : i < rs.length), rs[i].1 = (j : Int)) (hacc : Acc base es req) (hq0 : 0 ≤ req) (hqT : req ≤ 18446744073707454463) (hcnt : c + rs.length ≤ plen) (hj : j ≤ 4096) (hb : 0 < req → termOf base es (req - 1) = (bt, bf))
    (hQ : Done Q w3 lb plen j s0 s1 s2 s3 s4 s5 s28 s29 s30 s31 s32 s33 s34 s35 s36 s37 s38 s39 s40 s41 s42 s43 s44 s45 s46 s47 s48 s49 s50 s51 s52 s53 s54 s55 s56 s57 s58 s59 s60 s61 s62 s63 s64 s65 s66 s67 s68 s69) :
    Code.wp Trym.prog (sub [1, 1, 1, 1, 1, 1, 1, 1, 1, 0, 1, 0, 0, 1, 0, 0, 1, 1, 1, 1, 1, 1, 1, 1, 1, 1, 1, 1, 1] (Trym.f5.body.getD .skip)) Q ⟨#[s0, s1, s2, s3, s4, s5, s6, .pointer (some ⟨lb, 0, none⟩), .int .i64 ((c : Int) + rs.length), .int .i64 j, .int .u64 req, s11, s12, .int .i64 rs.length, .slice (some ⟨rb, 0, none⟩) rs.length rc, s15, .int .u64 bt, .bool bf, s18, s19, s20, s21, s22, s23, s24, s25, s26, s27, s28, s29, s30, s31, s32, s33, s34, s35, s36, s37, s38, s39, s40, s41, s42, s43, s44, s45, s46, s47, s48, s49, s50, s51, s52, s53, s54, s55, s56, s57, s58, s59, s60, s61, s62, s63, s64, s65, s66, s67, s68, s69, s70, s71, s72, s73, s74, s75, s76, s77, s78, s79, s80, s81, s82, s83, s84, s85, s86, s87, s88, s89, s90, s91, s92, s93, s94, s95, s96, s97, s98, s99, s100, s101, s102, s103, s104, s105, s106, s107, s108, s109, s110, s111, s112, s113, s114, s115, s116, s117, s118, s119, s120, s121, s122, s123, s124, s125, s126, s127, s128, s129, s130, s131, s132, s133, s134, s135, s136, s137, s138, s139, s140, s141, s142, s143, s144, s145, s146, s147, s148, s149, s150, s151, s152, s153, s154, s155, s156, s157, s158, s159, s160, s161, s162, s163, s164, s165, s166, s167, s168, s169, s170, s171, s172, s173, s174, s175, s176, s177, s178, s179, s180, s181, s182, s183, s184, s185, s186, s187, s188, s189, s190, s191, s192, s193, s194, s195, s196, s197, s198, s199, s200, s201, s202, s203, s204, s205, s206, s207, s208, s209, s210, s211], []⟩ w := by
  have hp4 := hst.p4
  have hlr4 : rs.length ≤ 4096 := by omega
  have HST : Hid (St w3 lb plen c base es a cap w) := hst
  have hel : es.length ≤ 4096 := Nat.le_trans hst.len (Nat.le_trans hst.cp hst.p4)
  have hb0 := hst.b0
  have hbT := hst.bT
  clear hst
  have HM : Hid (Mid w lb base es (sumN es) a cap rb rs rc w) := ⟨HST.out.log, hrefs, Below.refl _ _⟩
  have HNE : Hid ((Value.slice a es.length cap).ownBlock ≠ some rb) := hne
  obtain ⟨base', es', hsp⟩ : ∃ b e, spliced base es req rs = (b, e) := ⟨_, _, rfl⟩
  have e1 : (spliced base es req rs).1 = base' := by rw [hsp]
  have e2 : (spliced base es req rs).2 = es' := by rw [hsp]
  have HSP : Hid (spliced base es req rs = (base', es')) := hsp
  have HN : Hid (∀ i : Nat, i < rs.length → termOf base' es' (req + i) = ((j : Int), true)) := fun i hi => by rw [← e1, ← e2, term_new hacc i hi, hterm i hi]
  have HP : Hid (termOf base' es' (req + rs.length) = (0, false)) := by rw [← e1, ← e2]; exact term_past hacc
  have HB : Hid (0 < req → termOf base' es' (req - 1) = (bt, bf)) := fun h => by rw [← e1, ← e2, term_below hacc]; exact hb h
  have HL : Hid (es'.length ≤ c + rs.length ∧ Lens es' ∧ 0 ≤ base' ∧ base' ≤ 18446744073707454463) := by
    refine ⟨?_, ?_, ?_⟩
    · rw [← e2]; have := spliced_len (base := base) (es := es) (x := req) rs; have := HST.out.len; omega
    · rw [← e2]; exact spliced_lens HST.out.lens hlr
    · rw [← e1]; exact spliced_base hb0 hbT hq0 hqT
  have HACC : Hid (Acc base es req) := hacc
  have HLR : Hid (Lens rs) := hlr
  clear hrefs hne hsp e1 e2 hb hterm hacc hlr
  conv => arg 2; whnf
  refine wp_seq_k fun K hK => ?_
  have HK : Hid (∀ a w, Code.wp Trym.prog _ Q a w → K a w) := hK
  clear hK
  go_wp2_with fail
  refine (zzadd_all lb base es a cap rb rs rc req base' es' w HM.out HNE.out HST.out.lens HLR.out (by omega) (by omega) hb0 (by omega) HACC.out HSP.out).mono ?_
  rintro e w1 ⟨rfl, a1, cap1, hlog1, hbel1⟩
  have HS1 : Hid (St w3 lb plen (c + rs.length) base' es' a1 cap1 w1) := ⟨hlog1, HL.out.2.1, HL.out.1, hcnt, hp4, HL.out.2.2.1, HL.out.2.2.2, HST.out.bel.trans hbel1⟩
  clear hlog1 hbel1
  go_wp2
  refine HK.out _ _ ?_
  refine wp_seq_k fun K2 hK2 => ?_
  have HK2 : Hid (∀ a w, Code.wp Trym.prog _ Q a w → K2 a w) := hK2
  clear hK2
  go_wp2
  refine HK2.out _ _ ?_
  refine wp_seq_k fun K3 hK3 => ?_
  have HK3 : Hid (∀ a w, Code.wp Trym.prog _ Q a w → K3 a w) := hK3
  clear hK3
  go_wp2_with fail
  refine (len_any lb base' es' (sumN es') a1 cap1 w1 HS1.out.log).mono ?_
  rintro e w2 ⟨rfl, rfl⟩
  go_wp2
  have hfr : ((c : Int) + rs.length) = ((c + rs.length : Nat) : Int) := by omega
  rw [hfr]
  exact HK3.out _ _ (p41 w3 lb plen j (c + rs.length) base' es' a1 cap1 req bt bf rs.length _ HS1.out hq0 hqT hlr4 hj HN.out HP.out HB.out hQ)


set_option maxHeartbeats 1000000 in
set_option maxRecDepth 100000 in
theorem p36 {s0 s1 s2 s3 s4 s5 s6 s11 s12 s15 s18 s19 s20 s21 s22 s23 s24 s25 s26 s27 s28 s29 s30 s31 s32 s33 s34 s35 s36 s37 s38 s39 s40 s41 s42 s43 s44 s45 s46 s47 s48 s49 s50 s51 s52 s53 s54 s55 s56 s57 s58 s59 s60 s61 s62 s63 s64 s65 s66 s67 s68 s69 s70 s71 s72 s73 s74 s75 s76 s77 s78 s79 s80 s81 s82 s83 s84 s85 s86 s87 s88 s89 s90 s91 s92 s93 s94 s95 s96 s97 s98 s99 s100 s101 s102 s103 s104 s105 s106 s107 s108 s109 s110 s111 s112 s113 s114 s115 s116 s117 s118 s119 s120 s121 s122 s123 s124 s125 s126 s127 s128 s129 s130 s131 s132 s133 s134 s135 s136 s137 s138 s139 s140 s141 s142 s143 s144 s145 s146 s147 s148 s149 s150 s151 s152 s153 s154 s155 s156 s157 s158 s159 s160 s161 s162 s163 s164 s165 s166 s167 s168 s169 s170 s171 s172 s173 s174 s175 s176 s177 s178 s179 s180 s181 s182 s183 s184 s185 s186 s187 s188 s189 s190 s191 s192 s193 s194 s195 s196 s197 s198 s199 s200 s201 s202 s203 s204 s205 s206 s207 s208 s209 s210 s211 : Value} {Q : Exit → Act → World → Prop} (w3 : World) (lb plen j : Nat) (c : Nat) (base : Int) (es : List (Int × Int)) (a : Option Addr) (cap : Nat) (req : Int) (rb : Nat) (rs : List (Int × Int)) (rc : Nat) (w : World) (hst : St w3 lb plen c base es a cap w) (hrefs : w.ownsRow lb 43 4 (.slice (some ⟨rb, 0, none⟩) rs.length rc) rs.length (cellsL rs)) (hne : (Value.slice a es.length cap).ownBlock ≠ some rb) (hlr : Lens rs) (hterm : ∀ (i : Nat) (h : i < rs.length), rs[i].1 = (j : Int)) (hacc : Acc base es req) (hq0 : 0 ≤ req) (hqT : req ≤ 18446744073707454463) (hcnt : c + rs.length ≤ plen) (hj : j ≤ 4096)
    (hQ : Done Q w3 lb plen j s0 s1 s2 s3 s4 s5 s28 s29 s30 s31 s32 s33 s34 s35 s36 s37 s38 s39 s40 s41 s42 s43 s44 s45 s46 s47 s48 s49 s50 s51 s52 s53 s54 s55 s56 s57 s58 s59 s60 s61 s62 s63 s64 s65 s66 s67 s68 s69) :
    Code.wp Trym.prog (sub [1, 1, 1, 1, 1, 1, 1, 1, 1, 0, 1, 0, 0, 1, 0, 0, 1, 1, 1, 1, 1, 1, 1, 1, 1, 1, 1, 1] (Trym.f5.body.getD .skip)) Q ⟨#[s0, s1, s2, s3, s4, s5, s6, .pointer (some ⟨lb, 0, none⟩), .int .i64 ((c : Int) + rs.length), .int .i64 j, .int .u64 req, s11, s12, .int .i64 rs.length, .slice (some ⟨rb, 0, none⟩) rs.length rc, s15, .int .u64 0, .bool false, s18, s19, s20, s21, s22, s23, s24, s25, s26, s27, s28, s29, s30, s31, s32, s33, s34, s35, s36, s37, s38, s39, s40, s41, s42, s43, s44, s45, s46, s47, s48, s49, s50, s51, s52, s53, s54, s55, s56, s57, s58, s59, s60, s61, s62, s63, s64, s65, s66, s67, s68, s69, s70, s71, s72, s73, s74, s75, s76, s77, s78, s79, s80, s81, s82, s83, s84, s85, s86, s87, s88, s89, s90, s91, s92, s93, s94, s95, s96, s97, s98, s99, s100, s101, s102, s103, s104, s105, s106, s107, s108, s109, s110, s111, s112, s113, s114, s115, s116, s117, s118, s119, s120, s121, s122, s123, s124, s125, s126, s127, s128, s129, s130, s131, s132, s133, s134, s135, s136, s137, s138, s139, s140, s141, s142, s143, s144, s145, s146, s147, s148, s149, s150, s151, s152, s153, s154, s155, s156, s157, s158, s159, s160, s161, s162, s163, s164, s165, s166, s167, s168, s169, s170, s171, s172, s173, s174, s175, s176, s177, s178, s179, s180, s181, s182, s183, s184, s185, s186, s187, s188, s189, s190, s191, s192, s193, s194, s195, s196, s197, s198, s199, s200, s201, s202, s203, s204, s205, s206, s207, s208, s209, s210, s211], []⟩ w := by
  have HST : Hid (St w3 lb plen c base es a cap w) := hst
  have hel : es.length ≤ 4096 := Nat.le_trans hst.len (Nat.le_trans hst.cp hst.p4)
  have hb0 := hst.b0
  have hbT := hst.bT
  clear hst
  have HRF : Hid (w.ownsRow lb 43 4 (.slice (some ⟨rb, 0, none⟩) rs.length rc) rs.length (cellsL rs)) := hrefs
  have HNE : Hid ((Value.slice a es.length cap).ownBlock ≠ some rb) := hne
  have HLR : Hid (Lens rs) := hlr
  have HT : Hid (∀ (i : Nat) (h : i < rs.length), rs[i].1 = (j : Int)) := hterm
  have HACC : Hid (Acc base es req) := hacc
  clear hrefs hne hlr hterm hacc
  conv => arg 2; whnf
  refine wp_seq_k fun K hK => ?_
  have HK : Hid (∀ a w, Code.wp Trym.prog _ Q a w → K a w) := hK
  clear hK
  by_cases hr : 0 < req
  · obtain ⟨bt, bf, hte⟩ : ∃ t f, termOf base es (req - 1) = (t, f) := ⟨_, _, rfl⟩
    have HTE : Hid (termOf base es (req - 1) = (bt, bf)) := hte
    clear hte
    go_wp2_with fail
    refine (zzterm_all lb base es (sumN es) a cap (req - 1) bt bf w HST.out.log hb0 (by omega) (by omega) HTE.out).mono ?_
    rintro e w' ⟨rfl, q, rfl⟩
    go_wp2
    exact HK.out _ _ (p38 w3 lb plen j c base es a cap req bt bf rb rs rc _ (HST.out.drewN q) HRF.out HNE.out HLR.out HT.out HACC.out hq0 hqT hcnt hj (fun _ => HTE.out) hQ)
  · go_wp2
    exact HK.out _ _ (p38 w3 lb plen j c base es a cap req 0 false rb rs rc _ HST.out HRF.out HNE.out HLR.out HT.out HACC.out hq0 hqT hcnt hj (fun h => by omega) hQ)


end Go.Proofs.Qxb6001495aMods.L
