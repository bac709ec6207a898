import Derived.Test.Qxb6001495aModsS5
namespace Go.Proofs.Qxb6001495aMods.L
open Go.RowKit

def SomeBool (w : World) (e : Ending) (w' : World) : Prop := ∃ b : Bool, e = .returned (.bool b) ∧ w' = w
def Post (w : World) (e : Ending) (w' : World) : Prop := e = .returned (.bool true) ∧ Below w.heap.size w w'

set_option maxHeartbeats 400000 in
theorem bytesS_any (a0 a1 a2 : Option Addr) (l0 c0 l1 c1 l2 c2 : Nat) (w : World) (h0 : l0 ≤ maxLen) (h1 : l1 ≤ maxLen) (h2 : l2 ≤ maxLen) :
    Calls Trym.prog 18 #[.slice a0 l0 c0, .slice a1 l1 c1, .slice a2 l2 c2] w (SomeBool w) := by
  unfold maxLen at h0 h1 h2
  go_enter Trym.func18, Trym.ntmps18
  go_wp2
  all_goals
    go_ret
    exact ⟨_, rfl, rfl⟩

theorem new_log (w : World) : Log (w.alloc (.cells #[.int .u64 0, .int .u64 0, .int .u64 0, .bool false, .int .u64 0, .slice none 0 0, .int .u64 0, .slice none 0 0] 49)) w.heap.size 0 [] (sumN []) none 0 :=
  ⟨heap_alloc_new w _, World.ownsRow_nil _ _ _ _⟩

set_option maxHeartbeats 4000000 in
set_option maxRecDepth 100000 in
theorem script_any (a0 : Option Addr) (len0 cap0 : Nat) (ops : List Int) (a1 : Option Addr) (len1 cap1 : Nat) (cts : List Int) (a2 : Option Addr) (len2 cap2 : Nat) (pool : List Int) (w : World)
    (hr0 : Row (Value.int .u64) 0 w a0 len0 ops) (hr1 : Row (Value.int .u8) 0 w a1 len1 cts) (hr2 : Row (Value.int .u32) 0 w a2 len2 pool)
    (hl0 : len0 ≤ maxLen) (hl1 : len1 ≤ maxLen) (hl2 : len2 ≤ maxLen)
    (hb0 : ∀ z ∈ ops, 0 ≤ z ∧ z ≤ 18446744073709551615) (hb1 : ∀ z ∈ cts, 0 ≤ z ∧ z ≤ 255) (hb2 : ∀ z ∈ pool, 0 ≤ z ∧ z ≤ 4294967295) :
    Calls Trym.prog 5 #[.slice a0 len0 cap0, .slice a1 len1 cap1, .slice a2 len2 cap2] w (Post w) := by
  have e0 : len0 = ops.length := hr0.1.symm
  have e1 : len1 = cts.length := hr1.1.symm
  have e2 : len2 = pool.length := hr2.1.symm
  subst e0 e1 e2
  have HB : Hid (Calls Trym.prog 18 #[.slice a0 ops.length cap0, .slice a1 cts.length cap1, .slice a2 pool.length cap2] w (SomeBool w)) := bytesS_any a0 a1 a2 _ _ _ _ _ _ w hl0 hl1 hl2
  have HR0 : Hid (Row (Value.int .u64) 0 w a0 ops.length ops) := hr0
  have HR1 : Hid (Row (Value.int .u8) 0 w a1 cts.length cts) := hr1
  have HR2 : Hid (Row (Value.int .u32) 0 w a2 pool.length pool) := hr2
  have HB0 : Hid (∀ z ∈ ops, 0 ≤ z ∧ z ≤ 18446744073709551615) := hb0
  have HB1 : Hid (∀ z ∈ cts, 0 ≤ z ∧ z ≤ 255) := hb1
  have HB2 : Hid (∀ z ∈ pool, 0 ≤ z ∧ z ≤ 4294967295) := hb2
  unfold maxLen at hl0 hl1 hl2
  clear hr0 hr1 hr2 hb0 hb1 hb2
  go_enter Trym.func5, Trym.ntmps5
  go_wp2_with fail
  refine HB.out.mono ?_
  rintro e w' ⟨b, rfl, rfl⟩
  clear HB
  cases b with
  | false =>
    go_wp2
    go_ret
    exact ⟨rfl, Below.refl _ _⟩
  | true =>
  by_cases h1 : 4096 < ops.length
  · go_wp2
    go_ret
    exact ⟨rfl, Below.refl _ _⟩
  by_cases h2 : 4096 < cts.length
  · go_wp2
    go_ret
    exact ⟨rfl, Below.refl _ _⟩
  by_cases h3 : 4096 < pool.length
  · go_wp2
    go_ret
    exact ⟨rfl, Below.refl _ _⟩
  have d1 : decide ((4096 : Int) < (ops.length : Int)) = false := by simp; omega
  have d2 : decide ((4096 : Int) < (cts.length : Int)) = false := by simp; omega
  have d3 : decide ((4096 : Int) < (pool.length : Int)) = false := by simp; omega
  have d4 : decide ((1048576 : Int) < 8 * (ops.length : Int) + (cts.length : Int) + 4 * (pool.length : Int)) = false := by simp; omega
  go_wp2_with fail
  refine (cloneU64_any a0 ops.length cap0 ops _ HR0.out (by omega)).mono ?_
  rintro e w1 ⟨b0, rfl, r0, bel1⟩
  go_wp2_with fail
  refine (cloneU8_any a1 cts.length cap1 cts _ (HR1.out.below bel1 (Nat.le_refl _)) (by omega)).mono ?_
  rintro e w2 ⟨b1, rfl, r1, bel2⟩
  go_wp2_with fail
  refine (cloneU32_any a2 pool.length cap2 pool _ (HR2.out.below (bel1.trans (bel2.mono bel1.size)) (Nat.le_refl _)) (by omega)).mono ?_
  rintro e w3 ⟨b2, rfl, r2, bel3⟩
  have HW : Hid (Below w'.heap.size w' w3) := (bel1.trans (bel2.mono bel1.size)).trans (bel3.mono (Nat.le_trans bel1.size bel2.size))
  have HQ0 : Hid (Row (Value.int .u64) 0 w3 b0 ops.length ops) := (r0.below bel2 (Nat.le_refl _)).below bel3 (Nat.le_refl _)
  have HQ1 : Hid (Row (Value.int .u8) 0 w3 b1 cts.length cts) := r1.below bel3 (Nat.le_refl _)
  have HQ2 : Hid (Row (Value.int .u32) 0 w3 b2 pool.length pool) := r2
  clear r0 r1 r2 bel1 bel2 bel3 HR0 HR1 HR2
  go_wp2_with fail
  refine (new_any w3).mono ?_
  rintro e w4 ⟨rfl, rfl⟩
  have hst : Inv w3 w3.heap.size pool.length 0 (w3.alloc (.cells #[.int .u64 0, .int .u64 0, .int .u64 0, .bool false, .int .u64 0, .slice none 0 0, .int .u64 0, .slice none 0 0] 49)) :=
    ⟨0, [], none, 0, new_log w3, fun p hp => by simp at hp, Nat.le_refl _, Nat.zero_le _, by omega, by omega, by omega, (Below.refl _ _).alloc (Nat.le_refl _) _⟩
  go_wp2
  go_loopw [8, 9] (fun s8 s9 wr => ∃ j c : Nat, j ≤ ops.length ∧ s9 = .int .i64 j ∧ s8 = .int .i64 c ∧ Inv w3 w3.heap.size pool.length c wr) (fun _ i _ => ops.length - (intOf i).toNat)
  case atStart => exact ⟨0, 0, Nat.zero_le _, rfl, rfl, hst⟩
  case round =>
    clear hst
    obtain ⟨j, c, hj, rfl, rfl, base, es, a, cap, hs⟩ := hrel
    have HS : Hid (St w3 w3.heap.size pool.length c base es a cap wr) := hs
    have hbel := hs.bel
    clear hs
    by_cases hlt : j < ops.length
    · obtain ⟨q0, o0, rfl, hq0, hcell0⟩ := HQ0.out.at_pos (by omega)
      have hcx : wr.cell? ⟨q0, o0 + j, none⟩ = some (.int .u64 (ops.getD j 0)) := (hbel.cell (p := ⟨q0, o0 + j, none⟩) hq0).trans (hcell0.out j hlt)
      have hvb : 0 ≤ ops.getD j 0 ∧ ops.getD j 0 ≤ 18446744073709551615 := by
        rw [List.getD, List.getElem?_eq_getElem hlt]; exact HB0.out _ (List.getElem_mem _)
      obtain ⟨v, hv⟩ : ∃ v, v = ops.getD j 0 := ⟨_, rfl⟩
      rw [← hv] at hcx hvb
      clear hv
      go_upto_region 15 with fail
      rename_i K15 hK15
      have HK : Hid (∀ a w, Code.wp Trym.prog _ _ a w → K15 a w) := hK15
      clear hK15
      go_wp2
      refine HK.out _ _ ?_
      refine p16 w3 w3.heap.size pool.length j c base es a cap v b1 b2 cts pool _ HS.out HQ1.out (by omega) HB1.out HQ2.out (Nat.le_refl _) rfl HB2.out hvb.1 (by omega) ?_
      intro y6 y10 y11 y12 y13 y14 y15 y16 y17 y18 y19 y20 y21 y22 y23 y24 y25 y26 y27 y70 y71 y72 y73 y74 y75 y76 y77 y78 y79 y80 y81 y82 y83 y84 y85 y86 y87 y88 y89 y90 y91 y92 y93 y94 y95 y96 y97 y98 y99 y100 y101 y102 y103 y104 y105 y106 y107 y108 y109 y110 y111 y112 y113 y114 y115 y116 y117 y118 y119 y120 y121 y122 y123 y124 y125 y126 y127 y128 y129 y130 y131 y132 y133 y134 y135 y136 y137 y138 y139 y140 y141 y142 y143 y144 y145 y146 y147 y148 y149 y150 y151 y152 y153 y154 y155 y156 y157 y158 y159 y160 y161 y162 y163 y164 y165 y166 y167 y168 y169 y170 y171 y172 y173 y174 y175 y176 y177 y178 y179 y180 y181 y182 y183 y184 y185 y186 y187 y188 y189 y190 y191 y192 y193 y194 y195 y196 y197 y198 y199 y200 y201 y202 y203 y204 y205 y206 y207 y208 y209 y210 y211 c' w'' hinv
      clear hcx HK
      go_wp2
      go_roundw
      case rel => exact ⟨j + 1, c', by omega, by go_num, rfl, hinv⟩
      case measure => simp [intOf]; omega
    · go_wp2
      go_ret
      exact ⟨rfl, HW.out.trans (hbel.mono HW.out.size)⟩

end Go.Proofs.Qxb6001495aMods.L
