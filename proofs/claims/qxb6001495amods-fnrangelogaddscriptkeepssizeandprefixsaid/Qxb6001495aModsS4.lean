import Derived.Test.Qxb6001495aModsS3
namespace Go.Proofs.Qxb6001495aMods.L
open Go.RowKit

theorem St.grown {w3 : World} {lb plen c : Nat} {base : Int} {es : List (Int × Int)} {a : Option Addr} {cap : Nat} {w w' : World} {row : Option Nat} (h : St w3 lb plen c base es a cap w) (hg : w.grownBy w' row) (hlb : some lb ≠ row) (hne : (Value.slice a es.length cap).ownBlock = none ∨ (Value.slice a es.length cap).ownBlock ≠ row) (hr : ∀ k, row = some k → lb ≤ k) : St w3 lb plen c base es a cap w' :=
  ⟨⟨(hg.block lb (lt_of_block h.log.box) hlb).trans h.log.box, h.log.row.kept hg hne⟩, h.lens, h.len, h.cp, h.p4, h.b0, h.bT, h.bel.grown hg (Nat.le_of_lt (lt_of_block h.log.box)) hr⟩

theorem St.alloc {w3 : World} {lb plen c : Nat} {base : Int} {es : List (Int × Int)} {a : Option Addr} {cap : Nat} {w : World} (h : St w3 lb plen c base es a cap w) (o : Obj) : St w3 lb plen c base es a cap (w.alloc o) :=
  ⟨h.log.alloc o, h.lens, h.len, h.cp, h.p4, h.b0, h.bT, h.bel.alloc (Nat.le_of_lt (lt_of_block h.log.box)) o⟩

/-- a row's block is not beyond the heap -/
theorem St.ne_new {w3 : World} {lb plen c : Nat} {base : Int} {es : List (Int × Int)} {a : Option Addr} {cap : Nat} {w : World} (h : St w3 lb plen c base es a cap w) : (Value.slice a es.length cap).ownBlock ≠ some w.heap.size := by
  intro e
  have := (h.log.row.lt _ e).2
  omega

theorem cellsL_one (p : Int × Int) : cellsL [p] = ent p := by simp [cellsL]

theorem ent_new (W : World) (p : Int × Int) : ∀ (i : Nat) u, (ent p)[i]? = some u → (W.alloc (.cells #[.int .u64 p.1, .int .i64 0, .int .u32 p.2, .int .u32 0] 43)).cell? ((⟨W.heap.size, 0, none⟩ : Addr).add i) = some u := by
  intro i u hu
  rw [Addr.add_lit, Nat.zero_add, cell_of_row _ W.heap.size i _ 43 (0, 0) (heap_alloc_new W _)]
  simpa [ent] using hu

theorem ent_oneCell (p : Int × Int) : ∀ u ∈ ent p, u.oneCell' = true := by
  intro u hu
  simp [ent] at hu
  rcases hu with rfl | rfl | rfl | rfl <;> rfl

/-- In the midst of the refs' loop. -/
structure Refs (w3 : World) (lb plen c : Nat) (base : Int) (es : List (Int × Int)) (a : Option Addr) (cap : Nat) (rb : Nat) (rs : List (Int × Int)) (rc : Nat) (w : World) : Prop where
  st : St w3 lb plen c base es a cap w
  refs : w.ownsRow lb 43 4 (.slice (some ⟨rb, 0, none⟩) rs.length rc) rs.length (cellsL rs)
  ne : (Value.slice a es.length cap).ownBlock ≠ some rb

theorem Refs.step {w3 : World} {lb plen c : Nat} {base : Int} {es : List (Int × Int)} {a : Option Addr} {cap : Nat} {rb : Nat} {rs : List (Int × Int)} {rc : Nat} {w w1 : World} {p : Int × Int} {o1 o2 : Obj} (h : Refs w3 lb plen c base es a cap rb rs rc w)
    (hown : w1.ownsRow lb 43 4 (.slice (some ⟨rb, 0, none⟩) (rs.length + 1) rc) (rs.length + 1) (cellsL rs ++ ent p)) (hg : ((w.alloc o1).alloc o2).grownBy w1 (some rb)) : Refs w3 lb plen c base es a cap rb (rs ++ [p]) rc w1 := by
  have hs := (h.st.alloc o1).alloc o2
  have hlb : some lb ≠ some rb := fun e => row_ne h.refs h.st.log.box (fun cur e => by cases e) (by cases e; rfl)
  have hrb := (h.refs.lt rb rfl).1
  refine ⟨hs.grown hg hlb (.inr h.ne) (fun k e => by cases e; exact hrb), ?_, h.ne⟩
  have e : cellsL (rs ++ [p]) = cellsL rs ++ ent p := by rw [cellsL_append, cellsL_one]
  rw [e]
  simpa using hown

set_option maxHeartbeats 1000000 in
set_option maxRecDepth 100000 in
theorem p29 {s0 s1 s3 s4 s5 s6 s11 s12 s15 s16 s17 s18 s19 s20 s21 s22 s23 s24 s25 s26 s27 s28 s29 s30 s31 s32 s33 s34 s35 s36 s37 s38 s39 s40 s41 s42 s43 s44 s45 s46 s47 s48 s49 s50 s51 s52 s53 s54 s55 s56 s57 s58 s59 s60 s61 s62 s63 s64 s65 s66 s67 s68 s69 s70 s71 s72 s73 s74 s75 s76 s77 s78 s79 s80 s81 s82 s83 s84 s85 s86 s87 s88 s89 s90 s91 s92 s93 s94 s95 s96 s97 s98 s99 s100 s101 s102 s103 s104 s105 s106 s107 s108 s109 s110 s111 s112 s113 s114 s115 s116 s117 s118 s119 s120 s121 s122 s123 s124 s125 s126 s127 s128 s129 s130 s131 s132 s133 s134 s135 s136 s137 s138 s139 s140 s141 s142 s143 s144 s145 s146 s147 s148 s149 s150 s151 s152 s153 s154 s155 s156 s157 s158 s159 s160 s161 s162 s163 s164 s165 s166 s167 s168 s169 s170 s171 s172 s173 s174 s175 s176 s177 s178 s179 s180 s181 s182 s183 s184 s185 s186 s187 s188 s189 s190 s191 s192 s193 s194 s195 s196 s197 s198 s199 s200 s201 s202 s203 s204 s205 s206 s207 s208 s209 s210 s211 : Value} {Q : Exit → Act → World → Prop} (w3 : World) (lb plen j : Nat) (c : Nat) (base : Int) (es : List (Int × Int)) (a : Option Addr) (cap : Nat) (req : Int) (rb : Nat) (cnt : Nat) (b2 : Option Addr) (pool : List Int) (w : World) (hst : Refs w3 lb plen c base es a cap rb [] cnt w) (hrow : Row (Value.int .u32) 0 w3 b2 pool.length pool) (h3 : w3.heap.size ≤ lb) (hpl : pool.length = plen) (hpb : ∀ z ∈ pool, 0 ≤ z ∧ z ≤ 4294967295) (hacc : Acc base es req) (hq0 : 0 ≤ req) (hqT : req ≤ 18446744073707454463) (hcnt : c + cnt ≤ plen) (hj : j ≤ 4096)
    (hQ : Done Q w3 lb plen j s0 s1 (.slice b2 pool.length pool.length) s3 s4 s5 s28 s29 s30 s31 s32 s33 s34 s35 s36 s37 s38 s39 s40 s41 s42 s43 s44 s45 s46 s47 s48 s49 s50 s51 s52 s53 s54 s55 s56 s57 s58 s59 s60 s61 s62 s63 s64 s65 s66 s67 s68 s69) :
    Code.wp Trym.prog (sub [1, 1, 1, 1, 1, 1, 1, 1, 1, 0, 1, 0, 0, 1, 0, 0, 1, 1, 1, 1, 1, 1, 1, 1] (Trym.f5.body.getD .skip)) Q ⟨#[s0, s1, .slice b2 pool.length pool.length, s3, s4, s5, s6, .pointer (some ⟨lb, 0, none⟩), .int .i64 c, .int .i64 j, .int .u64 req, s11, s12, .int .i64 cnt, .slice (some ⟨rb, 0, none⟩) 0 cnt, s15, s16, s17, s18, s19, s20, s21, s22, s23, s24, s25, s26, s27, s28, s29, s30, s31, s32, s33, s34, s35, s36, s37, s38, s39, s40, s41, s42, s43, s44, s45, s46, s47, s48, s49, s50, s51, s52, s53, s54, s55, s56, s57, s58, s59, s60, s61, s62, s63, s64, s65, s66, s67, s68, s69, s70, s71, s72, s73, s74, s75, s76, s77, s78, s79, s80, s81, s82, s83, s84, s85, s86, s87, s88, s89, s90, s91, s92, s93, s94, s95, s96, s97, s98, s99, s100, s101, s102, s103, s104, s105, s106, s107, s108, s109, s110, s111, s112, s113, s114, s115, s116, s117, s118, s119, s120, s121, s122, s123, s124, s125, s126, s127, s128, s129, s130, s131, s132, s133, s134, s135, s136, s137, s138, s139, s140, s141, s142, s143, s144, s145, s146, s147, s148, s149, s150, s151, s152, s153, s154, s155, s156, s157, s158, s159, s160, s161, s162, s163, s164, s165, s166, s167, s168, s169, s170, s171, s172, s173, s174, s175, s176, s177, s178, s179, s180, s181, s182, s183, s184, s185, s186, s187, s188, s189, s190, s191, s192, s193, s194, s195, s196, s197, s198, s199, s200, s201, s202, s203, s204, s205, s206, s207, s208, s209, s210, s211], []⟩ w := by
  have hp4 := hst.st.p4
  have HST : Hid (Refs w3 lb plen c base es a cap rb [] cnt w) := hst
  have HR : Hid (Row (Value.int .u32) 0 w3 b2 pool.length pool) := hrow
  have HPL : Hid (pool.length = plen) := hpl
  have HPB : Hid (∀ z ∈ pool, 0 ≤ z ∧ z ≤ 4294967295) := hpb
  have HACC : Hid (Acc base es req) := hacc
  have hc1 : c ≤ 4096 := by omega
  have hc2 : cnt ≤ 4096 := by omega
  have hpn : pool.length ≤ 4096 := by omega
  have hcp : c + cnt ≤ pool.length := by omega
  clear hst hrow hpl hpb hacc
  obtain ⟨i0, hi, hz0, hz1, hz2⟩ := info_parts info43
  conv => arg 2; whnf
  refine wp_seq_k fun K hK => ?_
  have HK : Hid (∀ a w, Code.wp Trym.prog _ Q a w → K a w) := hK
  clear hK
  go_wp2
  go_loopw [14, 15] (fun s14 s15 wr => ∃ k : Nat, k ≤ cnt ∧ s15 = .int .i64 k ∧ s14 = .slice (some ⟨rb, 0, none⟩) k cnt ∧ Refs w3 lb plen c base es a cap rb (newRefs j pool c k) cnt wr) (fun _ s15 _ => cnt - (intOf s15).toNat)
  case atStart => exact ⟨0, Nat.zero_le _, rfl, rfl, HST.out⟩
  case round =>
    obtain ⟨k, hk, rfl, rfl, hrf⟩ := hrel
    have HRF : Hid (Refs w3 lb plen c base es a cap rb (newRefs j pool c k) cnt wr) := hrf
    have hown := hrf.refs
    rw [newRefs_length] at hown
    have hlb := lt_of_block hrf.st.log.box
    by_cases hlt : k < cnt
    · obtain ⟨q2, o2, rfl, hq2, hcell⟩ := HR.out.at_pos (by omega)
      obtain ⟨m, hm⟩ : ∃ m : Nat, m = c + k := ⟨_, rfl⟩
      have hcx : wr.cell? ⟨q2, o2 + m, none⟩ = some (.int .u32 (pool.getD m 0)) := (hrf.st.bel.cell (p := ⟨q2, o2 + m, none⟩) (by show q2 < lb; omega)).trans (hcell.out m (by omega))
      obtain ⟨z, hz⟩ : ∃ z, z = pool.getD m 0 := ⟨_, rfl⟩
      rw [← hz] at hcx
      have hmI : (c : Int) + (k : Int) = (m : Int) := by omega
      have hm0 : (m : Int) < (pool.length : Int) := by omega
      have HNX : Hid (newRefs j pool c (k + 1) = newRefs j pool c k ++ [((j : Int), z)]) := by rw [newRefs_succ, hz, hm]; exact rfl
      clear hz hm hrf
      go_wp2_with (first
        | (go_at_call 21; refine (ref_any _ _ _).mono ?_; rintro e w' ⟨rfl, rfl⟩)
        | (at_builtin; refine wpList_append_fits _ rfl _ _ 32 rfl lb 43 i0 4 Trym.underlying32 hi hz1 rb k cnt _ rfl ((hown.alloc _).alloc _) ⟨wr.heap.size + 1, 0, none⟩ 1 1 (ent ((j : Int), z)) rfl rfl ?hc (ent_oneCell _) (by omega) ?_))
      case hc => exact by have := ent_new (wr.alloc (.cells #[.int .u64 (j : Int), .int .i64 0, .int .u32 z, .int .u32 0] 43)) ((j : Int), z); simpa using this
      intro w1 hown1 hg1
      have hstp := HRF.out.step (p := ((j : Int), z)) (by rw [newRefs_length]; exact hown1) hg1
      have HSTP : Hid (Refs w3 lb plen c base es a cap rb (newRefs j pool c (k + 1)) cnt w1) := by rw [HNX.out]; exact hstp
      clear hstp hown1 hg1 hown
      go_wp2
      go_roundw
      case rel => exact ⟨k + 1, by omega, by go_num, rfl, HSTP.out⟩
      case measure => simp [intOf]; omega
    · have hkc : k = cnt := by omega
      subst hkc
      go_wp2
      refine HK.out _ _ ?_
      refine wp_seq_k fun K2 hK2 => ?_
      have HK2 : Hid (∀ a w, Code.wp Trym.prog _ Q a w → K2 a w) := hK2
      clear hK2
      go_wp2
      refine HK2.out _ _ ?_
      refine wp_seq_k fun K3 hK3 => ?_
      have HK3 : Hid (∀ a w, Code.wp Trym.prog _ Q a w → K3 a w) := hK3
      clear hK3
      go_wp2
      refine HK3.out _ _ ?_
      refine wp_seq_k fun K4 hK4 => ?_
      have HK4 : Hid (∀ a w, Code.wp Trym.prog _ Q a w → K4 a w) := hK4
      clear hK4
      go_wp2
      obtain ⟨rs, hrs⟩ : ∃ rs, rs = newRefs j pool c k := ⟨_, rfl⟩
      have hlen : rs.length = k := by rw [hrs, newRefs_length]
      have hrf := HRF.out
      rw [← hrs] at hrf
      rw [← hlen]
      exact HK4.out _ _ (p36 w3 lb plen j c base es a cap req rb rs rs.length _ hrf.st (by have := hrf.refs; rw [← hlen] at this; exact this) hrf.ne (by rw [hrs]; exact newRefs_lens HPB.out) (by subst hrs; exact newRefs_at j pool c k) HACC.out hq0 hqT (by omega) hj hQ)


end Go.Proofs.Qxb6001495aMods.L
