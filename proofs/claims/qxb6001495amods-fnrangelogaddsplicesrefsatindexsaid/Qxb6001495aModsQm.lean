import Derived.Test.Qxb6001495aModsQu
namespace Go.Proofs.Qxb6001495aMods.L
open Go.RowKit

def SomeBool (w : World) (e : Ending) (w' : World) : Prop := ∃ b : Bool, e = .returned (.bool b) ∧ w' = w

set_option maxHeartbeats 1000000 in
theorem bytesQ_any (b i : Int) (a0 a1 a2 a3 : Option Addr) (l0 c0 l1 c1 l2 c2 l3 c3 : Nat) (w : World) (h0 : l0 ≤ maxLen) (h1 : l1 ≤ maxLen) (h2 : l2 ≤ maxLen) (h3 : l3 ≤ maxLen) :
    Calls Trym.prog 6 #[.int .u64 b, .slice a0 l0 c0, .slice a1 l1 c1, .int .u64 i, .slice a2 l2 c2, .slice a3 l3 c3] w (SomeBool w) := by
  unfold maxLen at h0 h1 h2 h3
  go_enter Trym.func6, Trym.ntmps6
  go_wp2
  all_goals
    go_ret
    exact ⟨_, rfl, rfl⟩

theorem new_log (w : World) : Log (w.alloc (.cells #[.int .u64 0, .int .u64 0, .int .u64 0, .bool false, .int .u64 0, .slice none 0 0, .int .u64 0, .slice none 0 0] 49)) w.heap.size 0 [] (sumN []) none 0 :=
  ⟨heap_alloc_new w _, World.ownsRow_nil _ _ _ _⟩

/-- The log behind the first add. -/
def Log1 (w3 : World) (lb : Nat) (base : Int) (es : List (Int × Int)) (w : World) : Prop := ∃ a cap, Log w lb base es (sumN es) a cap ∧ Below lb w3 w

theorem Log.below {w w' : World} {lb : Nat} {base : Int} {es : List (Int × Int)} {sz : Int} {a : Option Addr} {cap : Nat} (h : Log w lb base es sz a cap) (hb : Below w.heap.size w w') : Log w' lb base es sz a cap :=
  ⟨(hb.block lb (lt_of_block h.box)).trans h.box, h.row.kept (row := none) ⟨hb.os, hb.tape, hb.output, hb.size, fun k hk _ => hb.block k hk⟩ (by cases (Value.slice a es.length cap).ownBlock <;> simp)⟩

theorem Log.ne_new {w : World} {lb : Nat} {base : Int} {es : List (Int × Int)} {sz : Int} {a : Option Addr} {cap : Nat} (h : Log w lb base es sz a cap) : (Value.slice a es.length cap).ownBlock ≠ some w.heap.size := by
  intro e
  have := (h.row.lt _ e).2
  omega

set_option maxHeartbeats 4000000 in
set_option maxRecDepth 100000 in
theorem splices_any (base : Int) (a1 : Option Addr) (len1 cap1 : Nat) (ts : List Int) (a2 : Option Addr) (len2 cap2 : Nat) (ns : List Int) (index : Int) (a4 : Option Addr) (len4 cap4 : Nat) (nts : List Int) (a5 : Option Addr) (len5 cap5 : Nat) (nns : List Int) (w : World)
    (hr1 : Row (Value.int .u64) 0 w a1 len1 ts) (hr2 : Row (Value.int .u32) 0 w a2 len2 ns) (hr4 : Row (Value.int .u64) 0 w a4 len4 nts) (hr5 : Row (Value.int .u32) 0 w a5 len5 nns)
    (hl1 : len1 ≤ maxLen) (hl2 : len2 ≤ maxLen) (hl4 : len4 ≤ maxLen) (hl5 : len5 ≤ maxLen)
    (hb : 0 ≤ base ∧ base ≤ 18446744073709551615) (hx : 0 ≤ index ∧ index ≤ 18446744073709551615) (hp2 : ∀ z ∈ ns, 0 ≤ z ∧ z ≤ 4294967295) (hp5 : ∀ z ∈ nns, 0 ≤ z ∧ z ≤ 4294967295) :
    Calls Trym.prog 3 #[.int .u64 base, .slice a1 len1 cap1, .slice a2 len2 cap2, .int .u64 index, .slice a4 len4 cap4, .slice a5 len5 cap5] w (Post w) := by
  have e1 : len1 = ts.length := hr1.1.symm
  have e2 : len2 = ns.length := hr2.1.symm
  have e4 : len4 = nts.length := hr4.1.symm
  have e5 : len5 = nns.length := hr5.1.symm
  subst e1 e2 e4 e5
  have HB : Hid (Calls Trym.prog 6 #[.int .u64 base, .slice a1 ts.length cap1, .slice a2 ns.length cap2, .int .u64 index, .slice a4 nts.length cap4, .slice a5 nns.length cap5] w (SomeBool w)) := bytesQ_any _ _ _ _ _ _ _ _ _ _ _ _ _ _ w hl1 hl2 hl4 hl5
  have HR1 : Hid (Row (Value.int .u64) 0 w a1 ts.length ts) := hr1
  have HR2 : Hid (Row (Value.int .u32) 0 w a2 ns.length ns) := hr2
  have HR4 : Hid (Row (Value.int .u64) 0 w a4 nts.length nts) := hr4
  have HR5 : Hid (Row (Value.int .u32) 0 w a5 nns.length nns) := hr5
  have HP2 : Hid (∀ z ∈ ns, 0 ≤ z ∧ z ≤ 4294967295) := hp2
  have HP5 : Hid (∀ z ∈ nns, 0 ≤ z ∧ z ≤ 4294967295) := hp5
  unfold maxLen at hl1 hl2 hl4 hl5
  obtain ⟨hb0, hbM⟩ := hb
  obtain ⟨hx0, hxM⟩ := hx
  clear hr1 hr2 hr4 hr5 hp2 hp5
  go_enter Trym.func3, Trym.ntmps3
  go_wp2_with fail
  refine HB.out.mono ?_
  rintro e w' ⟨b, rfl, rfl⟩
  clear HB
  cases b with
  | false =>
    go_wp2
    go_ret
    exact ⟨rfl, Below.refl _ _⟩
  | true =>
  by_cases h1 : 131072 < ts.length
  · go_wp2
    go_ret
    exact ⟨rfl, Below.refl _ _⟩
  by_cases h2 : 262144 < ns.length
  · go_wp2
    go_ret
    exact ⟨rfl, Below.refl _ _⟩
  by_cases h4 : 131072 < nts.length
  · go_wp2
    go_ret
    exact ⟨rfl, Below.refl _ _⟩
  by_cases h5 : 262144 < nns.length
  · go_wp2
    go_ret
    exact ⟨rfl, Below.refl _ _⟩
  have d1 : decide ((131072 : Int) < (ts.length : Int)) = false := by simp; omega
  have d2 : decide ((262144 : Int) < (ns.length : Int)) = false := by simp; omega
  have d4 : decide ((131072 : Int) < (nts.length : Int)) = false := by simp; omega
  have d5 : decide ((262144 : Int) < (nns.length : Int)) = false := by simp; omega
  by_cases h6 : (1048576 : Int) < 8 * (ts.length : Int) + 4 * (ns.length : Int) + 8 * (nts.length : Int) + 4 * (nns.length : Int)
  · go_wp2
    go_ret
    exact ⟨rfl, Below.refl _ _⟩
  by_cases h7 : 18446744073707454463 < base
  · go_wp2
    go_ret
    exact ⟨rfl, Below.refl _ _⟩
  by_cases h8 : 18446744073707454463 < index
  · go_wp2
    go_ret
    exact ⟨rfl, Below.refl _ _⟩
  go_wp2_with fail
  refine (min_any ts.length ns.length _).mono ?_
  rintro e w' ⟨rfl, rfl⟩
  obtain ⟨k, hk⟩ : ∃ k, k = min ts.length ns.length := ⟨_, rfl⟩
  rw [← hk]
  have hk1 : k ≤ ts.length := by omega
  have hk2 : k ≤ ns.length := by omega
  clear hk
  go_wp2_with fail
  refine (min_any nts.length nns.length _).mono ?_
  rintro e w' ⟨rfl, rfl⟩
  obtain ⟨m, hm⟩ : ∃ m, m = min nts.length nns.length := ⟨_, rfl⟩
  rw [← hm]
  have hm1 : m ≤ nts.length := by omega
  have hm2 : m ≤ nns.length := by omega
  clear hm
  by_cases h9 : 0 < k ∧ base + k < index
  · obtain ⟨h9a, h9b⟩ := h9
    go_wp2
    go_ret
    exact ⟨rfl, Below.refl _ _⟩
  have HACC : Hid (0 < k → index ≤ base + k) := fun h => by omega
  by_cases h10 : 0 < k
  case' pos =>
    have h11 : ¬ base + k < index := by omega
  all_goals
    clear h9
    go_wp2_with fail
    refine (cloneU64_any a1 ts.length cap1 ts _ HR1.out (by omega)).mono ?_
    rintro e w1 ⟨b1, rfl, r1, bel1⟩
    go_wp2_with fail
    refine (cloneU32_any a2 ns.length cap2 ns _ (HR2.out.below bel1 (Nat.le_refl _)) (by omega)).mono ?_
    rintro e w2 ⟨b2, rfl, r2, bel2⟩
    have bel12 := bel1.trans (bel2.mono bel1.size)
    go_wp2_with fail
    refine (cloneU64_any a4 nts.length cap4 nts _ (HR4.out.below bel12 (Nat.le_refl _)) (by omega)).mono ?_
    rintro e w3 ⟨b4, rfl, r4, bel3⟩
    have bel13 := bel12.trans (bel3.mono bel12.size)
    go_wp2_with fail
    refine (cloneU32_any a5 nns.length cap5 nns _ (HR5.out.below bel13 (Nat.le_refl _)) (by omega)).mono ?_
    rintro e w4 ⟨b5, rfl, r5, bel4⟩
    have HW : Hid (Below w'.heap.size w' w4) := bel13.trans (bel4.mono bel13.size)
    have HQ1 : Hid (Row (Value.int .u64) 0 w4 b1 ts.length ts) := ((r1.below bel2 (Nat.le_refl _)).below bel3 (Nat.le_refl _)).below bel4 (Nat.le_refl _)
    have HQ2 : Hid (Row (Value.int .u32) 0 w4 b2 ns.length ns) := (r2.below bel3 (Nat.le_refl _)).below bel4 (Nat.le_refl _)
    have HQ4 : Hid (Row (Value.int .u64) 0 w4 b4 nts.length nts) := r4.below bel4 (Nat.le_refl _)
    have HQ5 : Hid (Row (Value.int .u32) 0 w4 b5 nns.length nns) := r5
    clear r1 r2 r4 r5 bel1 bel2 bel3 bel4 bel12 bel13 HR1 HR2 HR4 HR5
    go_wp2_with fail
    refine (new_any w4).mono ?_
    rintro e w5 ⟨rfl, rfl⟩
    obtain ⟨lb, hlb⟩ : ∃ lb, lb = w4.heap.size := ⟨_, rfl⟩
    obtain ⟨W5, hW5⟩ : ∃ W, W = w4.alloc (.cells #[.int .u64 0, .int .u64 0, .int .u64 0, .bool false, .int .u64 0, .slice none 0 0, .int .u64 0, .slice none 0 0] 49) := ⟨_, rfl⟩
    have HL5 : Hid (Log W5 lb 0 [] (sumN []) none 0) := by rw [hlb, hW5]; exact new_log w4
    have HB5 : Hid (Below lb w4 W5) := by rw [hlb, hW5]; exact (Below.refl _ _).alloc (Nat.le_refl _) _
    have HLB : Hid (w4.heap.size ≤ lb) := Nat.le_of_eq hlb.symm
    have hle5 : lb ≤ W5.heap.size := by rw [hlb, hW5]; simp
    rw [← hlb, ← hW5]
    clear hlb hW5
    go_wp2_with fail
    refine (refs_any lb b1 ts.length ts.length ts b2 ns.length ns.length ns k _ (HQ1.out.below HB5.out HLB.out) (HQ2.out.below HB5.out HLB.out) hk1 hk2 (by omega) hle5).mono ?_
    rintro e w6 ⟨rfl, hmk6⟩
    have HM6 : Hid (Mid w6 lb 0 [] (sumN []) none 0 W5.heap.size (pairs ts ns k) (pairs ts ns k).length w6) := ⟨HL5.out.below hmk6.bel, hmk6.refs, Below.refl _ _⟩
    have HB6 : Hid (Below lb w4 w6) := HB5.out.trans (hmk6.bel.mono hle5)
    clear hmk6
    go_wp2_with fail
    refine (zzadd_all lb 0 [] none 0 W5.heap.size (pairs ts ns k) (pairs ts ns k).length base base (pairs ts ns k) w6 HM6.out (by simp [Value.ownBlock]) (fun p hp => by simp at hp) (pairs_lens HP2.out) (by simp) (by rw [pairs_length]; omega) (Int.le_refl _) (by omega) (fun h => by simp at h) (by simp [spliced])).mono ?_
    rintro e w7 ⟨rfl, ax, capx, hlog7, hbel7⟩
    have HL7 : Hid (Log w7 lb base (pairs ts ns k) (sumN (pairs ts ns k)) ax capx) := hlog7
    have HB7 : Hid (Below lb w4 w7) := HB6.out.trans hbel7
    have hle7 : lb ≤ w7.heap.size := Nat.le_of_lt (lt_of_block hlog7.box)
    clear hlog7 hbel7
    go_wp2_with fail
    refine (refs_any lb b4 nts.length nts.length nts b5 nns.length nns.length nns m _ (HQ4.out.below HB7.out HLB.out) (HQ5.out.below HB7.out HLB.out) hm1 hm2 (by omega) hle7).mono ?_
    rintro e w8 ⟨rfl, hmk8⟩
    have HM8 : Hid (Mid w8 lb base (pairs ts ns k) (sumN (pairs ts ns k)) ax capx w7.heap.size (pairs nts nns m) (pairs nts nns m).length w8) := ⟨HL7.out.below hmk8.bel, hmk8.refs, Below.refl _ _⟩
    have HB8 : Hid (Below lb w4 w8) := HB7.out.trans (hmk8.bel.mono hle7)
    have HNE : Hid ((Value.slice ax (pairs ts ns k).length capx).ownBlock ≠ some w7.heap.size) := HL7.out.ne_new
    clear hmk8
    go_wp2_with fail
    refine (zzadd_all lb base (pairs ts ns k) ax capx w7.heap.size (pairs nts nns m) (pairs nts nns m).length index _ _ w8 HM8.out HNE.out (pairs_lens HP2.out) (pairs_lens HP5.out) (by rw [pairs_length]; omega) (by rw [pairs_length]; omega) hb0 (by omega) (fun h => by rw [pairs_length] at h ⊢; exact HACC.out h) (spliced_pairs HACC.out)).mono ?_
    rintro e w9 ⟨rfl, ay, capy, hlog9, hbel9⟩
    have HL9 : Hid (Log w9 lb (if base < index ∧ 0 < k then base else index) (pairs ts ns (keptOf base index k) ++ pairs nts nns m) (sumN (pairs ts ns (keptOf base index k) ++ pairs nts nns m)) ay capy) := hlog9
    have HB9 : Hid (Below lb w4 w9) := HB8.out.trans hbel9
    clear hlog9 hbel9
    go_upto_region 20 with fail
    rename_i K hK
    have HK : Hid (∀ (a : Act) (w : World), Code.wp Trym.prog _ _ a w → K a w) := hK
    clear hK
    go_wp2
    refine HK.out _ _ ?_
    exact tail21 w' w4 lb base index ts ns nts nns b1 b2 b4 b5 k m ay capy w9 HW.out HLB.out HL9.out HB9.out HQ1.out HQ2.out HQ4.out HQ5.out hk1 hk2 hm1 hm2 (by omega) (by omega) (by omega) (by omega) hb0 (by omega) hx0 (by omega) HACC.out HP2.out HP5.out

end Go.Proofs.Qxb6001495aMods.L
