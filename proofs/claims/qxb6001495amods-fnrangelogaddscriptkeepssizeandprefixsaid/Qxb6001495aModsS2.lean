import Derived.Test.Qxb6001495aModsS1
namespace Go.Proofs.Qxb6001495aMods.L
open Go.RowKit

set_option maxHeartbeats 1000000 in
set_option maxRecDepth 100000 in
theorem p47 {s0 s1 s2 s3 s4 s5 s6 s11 s12 s14 s15 s18 s19 s20 s21 s22 s23 s24 s25 s26 s27 s28 s29 s30 s31 s32 s33 s34 s35 s36 s37 s38 s39 s40 s41 s42 s43 s44 s45 s46 s47 s48 s49 s50 s51 s52 s53 s54 s55 s56 s57 s58 s59 s60 s61 s62 s63 s64 s65 s66 s67 s68 s69 s70 s71 s72 s73 s74 s75 s76 s77 s78 s79 s80 s81 s82 s83 s84 s85 s86 s87 s88 s89 s90 s91 s92 s93 s94 s95 s96 s97 s98 s99 s100 s101 s102 s103 s104 s105 s106 s107 s108 s109 s110 s111 s112 s113 s114 s115 s116 s117 s118 s119 s120 s121 s122 s123 s124 s125 s126 s127 s128 s129 s130 s131 s132 s133 s134 s135 s136 s137 s138 s139 s140 s141 s142 s143 s144 s145 s146 s147 s148 s149 s150 s151 s152 s153 s154 s155 s156 s157 s158 s159 s160 s161 s162 s163 s164 s165 s166 s167 s168 s169 s170 s171 s172 s173 s174 s175 s176 s177 s178 s179 s180 s181 s182 s183 s184 s185 s186 s187 s188 s189 s190 s191 s192 s193 s194 s195 s196 s197 s198 s199 s200 s201 s202 s203 s204 s205 s206 s207 s208 s209 s210 s211 : Value} {Q : Exit → Act → World → Prop} (w3 : World) (lb plen j : Nat) (c : Nat) (base : Int) (es : List (Int × Int)) (a : Option Addr) (cap : Nat) (req bt : Int) (bf : Bool) (cnt : Nat) (w : World) (hst : St w3 lb plen c base es a cap w) (hq0 : 0 ≤ req) (hqT : req ≤ 18446744073707454463) (hcnt : cnt ≤ 4096) (hj : j ≤ 4096) (hn : ∀ i : Nat, i < cnt → termOf base es (req + i) = ((j : Int), true)) (hp : termOf base es (req + cnt) = (0, false)) (hb : 0 < req → termOf base es (req - 1) = (bt, bf))
    (hQ : Done Q w3 lb plen j s0 s1 s2 s3 s4 s5 s28 s29 s30 s31 s32 s33 s34 s35 s36 s37 s38 s39 s40 s41 s42 s43 s44 s45 s46 s47 s48 s49 s50 s51 s52 s53 s54 s55 s56 s57 s58 s59 s60 s61 s62 s63 s64 s65 s66 s67 s68 s69) :
    Code.wp Trym.prog (sub [1, 1, 1, 1, 1, 1, 1, 1, 1, 0, 1, 0, 0, 1, 0, 0, 1, 1, 1, 1, 1, 1, 1, 1, 1, 1, 1, 1, 1, 1, 1, 1, 1, 1] (Trym.f5.body.getD .skip)) Q ⟨#[s0, s1, s2, s3, s4, s5, s6, .pointer (some ⟨lb, 0, none⟩), .int .i64 c, .int .i64 j, .int .u64 req, s11, s12, .int .i64 cnt, s14, s15, .int .u64 bt, .bool bf, s18, s19, s20, s21, s22, s23, s24, s25, s26, s27, s28, s29, s30, s31, s32, s33, s34, s35, s36, s37, s38, s39, s40, s41, s42, s43, s44, s45, s46, s47, s48, s49, s50, s51, s52, s53, s54, s55, s56, s57, s58, s59, s60, s61, s62, s63, s64, s65, s66, s67, s68, s69, s70, s71, s72, s73, s74, s75, s76, s77, s78, s79, s80, s81, s82, s83, s84, s85, s86, s87, s88, s89, s90, s91, s92, s93, s94, s95, s96, s97, s98, s99, s100, s101, s102, s103, s104, s105, s106, s107, s108, s109, s110, s111, s112, s113, s114, s115, s116, s117, s118, s119, s120, s121, s122, s123, s124, s125, s126, s127, s128, s129, s130, s131, s132, s133, s134, s135, s136, s137, s138, s139, s140, s141, s142, s143, s144, s145, s146, s147, s148, s149, s150, s151, s152, s153, s154, s155, s156, s157, s158, s159, s160, s161, s162, s163, s164, s165, s166, s167, s168, s169, s170, s171, s172, s173, s174, s175, s176, s177, s178, s179, s180, s181, s182, s183, s184, s185, s186, s187, s188, s189, s190, s191, s192, s193, s194, s195, s196, s197, s198, s199, s200, s201, s202, s203, s204, s205, s206, s207, s208, s209, s210, s211], []⟩ w := by
  have HST : Hid (St w3 lb plen c base es a cap w) := hst
  have hel : es.length ≤ 4096 := Nat.le_trans hst.len (Nat.le_trans hst.cp hst.p4)
  have hb0 := hst.b0
  have hbT := hst.bT
  clear hst
  have HP : Hid (termOf base es (req + cnt) = (0, false)) := hp
  have HB : Hid (0 < req → termOf base es (req - 1) = (bt, bf)) := hb
  have HN : Hid (∀ i : Nat, i < cnt → termOf base es (req + i) = ((j : Int), true)) := hn
  clear hp hb hn
  conv => arg 2; whnf
  refine wp_seq_k fun K hK => ?_
  have HK : Hid (∀ a w, Code.wp Trym.prog _ Q a w → K a w) := hK
  clear hK
  go_wp2
  go_loopw [21] (fun s21 wr => ∃ k : Nat, k ≤ cnt ∧ s21 = .int .i64 k ∧ St w3 lb plen c base es a cap wr) (fun s21 _ => cnt - (intOf s21).toNat)
  case atStart => exact ⟨0, Nat.zero_le _, rfl, HST.out⟩
  case round =>
    obtain ⟨k, hk, rfl, hst⟩ := hrel
    have HSW : Hid (St w3 lb plen c base es a cap wr) := hst
    clear hst
    by_cases hlt : k < cnt
    · have HNK : Hid (termOf base es (req + k) = ((j : Int), true)) := HN.out k hlt
      go_wp2_with fail
      refine (zzterm_all lb base es (sumN es) a cap (req + k) j true wr HSW.out.log hb0 (by omega) (by omega) HNK.out).mono ?_
      rintro e w' ⟨rfl, q, rfl⟩
      go_wp2
      go_roundw
      case rel => exact ⟨k + 1, by omega, by go_num, HSW.out.drewN q⟩
      case measure => simp [intOf]; omega
    · go_wp2
      exact HK.out _ _ (p53 w3 lb plen j c base es a cap req bt bf cnt _ HSW.out hq0 hqT hcnt HP.out HB.out hQ)


set_option maxHeartbeats 1000000 in
set_option maxRecDepth 100000 in
theorem p41 {s0 s1 s2 s3 s4 s5 s6 s11 s12 s14 s15 s20 s21 s22 s23 s24 s25 s26 s27 s28 s29 s30 s31 s32 s33 s34 s35 s36 s37 s38 s39 s40 s41 s42 s43 s44 s45 s46 s47 s48 s49 s50 s51 s52 s53 s54 s55 s56 s57 s58 s59 s60 s61 s62 s63 s64 s65 s66 s67 s68 s69 s70 s71 s72 s73 s74 s75 s76 s77 s78 s79 s80 s81 s82 s83 s84 s85 s86 s87 s88 s89 s90 s91 s92 s93 s94 s95 s96 s97 s98 s99 s100 s101 s102 s103 s104 s105 s106 s107 s108 s109 s110 s111 s112 s113 s114 s115 s116 s117 s118 s119 s120 s121 s122 s123 s124 s125 s126 s127 s128 s129 s130 s131 s132 s133 s134 s135 s136 s137 s138 s139 s140 s141 s142 s143 s144 s145 s146 s147 s148 s149 s150 s151 s152 s153 s154 s155 s156 s157 s158 s159 s160 s161 s162 s163 s164 s165 s166 s167 s168 s169 s170 s171 s172 s173 s174 s175 s176 s177 s178 s179 s180 s181 s182 s183 s184 s185 s186 s187 s188 s189 s190 s191 s192 s193 s194 s195 s196 s197 s198 s199 s200 s201 s202 s203 s204 s205 s206 s207 s208 s209 s210 s211 : Value} {Q : Exit → Act → World → Prop} (w3 : World) (lb plen j : Nat) (c : Nat) (base : Int) (es : List (Int × Int)) (a : Option Addr) (cap : Nat) (req bt : Int) (bf : Bool) (cnt : Nat) (w : World) (hst : St w3 lb plen c base es a cap w) (hq0 : 0 ≤ req) (hqT : req ≤ 18446744073707454463) (hcnt : cnt ≤ 4096) (hj : j ≤ 4096) (hn : ∀ i : Nat, i < cnt → termOf base es (req + i) = ((j : Int), true)) (hp : termOf base es (req + cnt) = (0, false)) (hb : 0 < req → termOf base es (req - 1) = (bt, bf))
    (hQ : Done Q w3 lb plen j s0 s1 s2 s3 s4 s5 s28 s29 s30 s31 s32 s33 s34 s35 s36 s37 s38 s39 s40 s41 s42 s43 s44 s45 s46 s47 s48 s49 s50 s51 s52 s53 s54 s55 s56 s57 s58 s59 s60 s61 s62 s63 s64 s65 s66 s67 s68 s69) :
    Code.wp Trym.prog (sub [1, 1, 1, 1, 1, 1, 1, 1, 1, 0, 1, 0, 0, 1, 0, 0, 1, 1, 1, 1, 1, 1, 1, 1, 1, 1, 1, 1, 1, 1, 1, 1] (Trym.f5.body.getD .skip)) Q ⟨#[s0, s1, s2, s3, s4, s5, s6, .pointer (some ⟨lb, 0, none⟩), .int .i64 c, .int .i64 j, .int .u64 req, s11, s12, .int .i64 cnt, s14, s15, .int .u64 bt, .bool bf, .int .u64 0, .int .i64 es.length, s20, s21, s22, s23, s24, s25, s26, s27, s28, s29, s30, s31, s32, s33, s34, s35, s36, s37, s38, s39, s40, s41, s42, s43, s44, s45, s46, s47, s48, s49, s50, s51, s52, s53, s54, s55, s56, s57, s58, s59, s60, s61, s62, s63, s64, s65, s66, s67, s68, s69, s70, s71, s72, s73, s74, s75, s76, s77, s78, s79, s80, s81, s82, s83, s84, s85, s86, s87, s88, s89, s90, s91, s92, s93, s94, s95, s96, s97, s98, s99, s100, s101, s102, s103, s104, s105, s106, s107, s108, s109, s110, s111, s112, s113, s114, s115, s116, s117, s118, s119, s120, s121, s122, s123, s124, s125, s126, s127, s128, s129, s130, s131, s132, s133, s134, s135, s136, s137, s138, s139, s140, s141, s142, s143, s144, s145, s146, s147, s148, s149, s150, s151, s152, s153, s154, s155, s156, s157, s158, s159, s160, s161, s162, s163, s164, s165, s166, s167, s168, s169, s170, s171, s172, s173, s174, s175, s176, s177, s178, s179, s180, s181, s182, s183, s184, s185, s186, s187, s188, s189, s190, s191, s192, s193, s194, s195, s196, s197, s198, s199, s200, s201, s202, s203, s204, s205, s206, s207, s208, s209, s210, s211], []⟩ w := by
  have HST : Hid (St w3 lb plen c base es a cap w) := hst
  have hel : es.length ≤ 4096 := Nat.le_trans hst.len (Nat.le_trans hst.cp hst.p4)
  have hb0 := hst.b0
  have hbT := hst.bT
  clear hst
  have HP : Hid (termOf base es (req + cnt) = (0, false)) := hp
  have HB : Hid (0 < req → termOf base es (req - 1) = (bt, bf)) := hb
  have HN : Hid (∀ i : Nat, i < cnt → termOf base es (req + i) = ((j : Int), true)) := hn
  clear hp hb hn
  conv => arg 2; whnf
  refine wp_seq_k fun K hK => ?_
  have HK : Hid (∀ a w, Code.wp Trym.prog _ Q a w → K a w) := hK
  clear hK
  go_wp2
  go_loop [18, 20] (fun s18 s20 => ∃ k : Nat, k ≤ es.length ∧ s20 = .int .i64 k ∧ s18 = .int .u64 (sumN (es.take k))) (fun _ s20 => es.length - (intOf s20).toNat)
  case atStart => exact ⟨0, Nat.zero_le _, rfl, by simp [sumN]⟩
  case round =>
    obtain ⟨k, hk, rfl, rfl⟩ := hrel
    by_cases hlt : k < es.length
    · have hsu := sumN_take_succ HST.out.lens (by omega) k hlt
      obtain ⟨n, hne⟩ : ∃ n, n = es[k].2 := ⟨_, rfl⟩
      obtain ⟨S, hS⟩ : ∃ S, S = sumN (es.take k) := ⟨_, rfl⟩
      rw [← hne, ← hS] at hsu
      obtain ⟨u1, u2, u3, u4, u5⟩ := hsu
      have HU : Hid (sumN (es.take (k + 1)) = S + n) := u5
      have HE : Hid (n = es[k].2) := hne
      rw [← hS]
      clear hne hS u5
      go_wp2_with fail
      refine (nAt_any lb base es (sumN es) a cap k n w HST.out.log hlt HE.out.symm).mono ?_
      rintro e w' ⟨rfl, rfl⟩
      go_wp2
      go_round
      case rel => exact ⟨k + 1, by omega, by go_num, by rw [HU.out]⟩
      case measure => simp [intOf]; omega
    · have hke : k = es.length := by omega
      subst hke
      rw [List.take_length]
      go_wp2
      refine HK.out _ _ ?_
      refine wp_seq_k fun K2 hK2 => ?_
      have HK2 : Hid (∀ a w, Code.wp Trym.prog _ Q a w → K2 a w) := hK2
      clear hK2
      go_wp2_with fail
      refine (size_any lb base es (sumN es) a cap w HST.out.log).mono ?_
      rintro e w' ⟨rfl, rfl⟩
      go_wp2
      exact HK2.out _ _ (p47 w3 lb plen j c base es a cap req bt bf cnt _ HST.out hq0 hqT hcnt hj HN.out HP.out HB.out hQ)


end Go.Proofs.Qxb6001495aMods.L
