import Derived.Test.Qxb6600043aModsTb
import Derived.Deep.Cut
namespace Go.Proofs.Qxb6600043aMods.L
open Go.RowKit

set_option maxHeartbeats 6400000 in
set_option maxRecDepth 100000 in
theorem needsLaw_any (a0 : Option Addr) (len0 cap0 : Nat) (ss : List ByteArray) (a1 : Option Addr) (len1 cap1 : Nat) (hs0 : List Hdr) (dss : List (List ByteArray)) (a2 : Option Addr) (len2 cap2 : Nat) (q : List ByteArray) (w : World)
    (hr0 : Strs w a0 len0 ss) (hr1 : Row hv d0 w a1 len1 hs0) (hrs : Rows w hs0 dss) (hf : Fits hs0 dss) (hr2 : Strs w a2 len2 q)
    (hl0 : len0 ≤ maxLen) (hl1 : len1 ≤ maxLen) (hl2 : len2 ≤ maxLen) (hs0' : ∀ s ∈ ss, s.size ≤ maxLen) (hs2' : ∀ s ∈ q, s.size ≤ maxLen) :
    Calls Trym.prog 3 #[.slice a0 len0 cap0, .slice a1 len1 cap1, .slice a2 len2 cap2] w (Post w) := by
  have HB : Hid (Calls Trym.prog 5 #[.slice a0 len0 cap0, .slice a1 len1 cap1, .slice a2 len2 cap2] w (BytesPost ss dss q w)) := bytes_any a0 len0 cap0 ss a1 len1 cap1 hs0 dss a2 len2 cap2 q w hr0 hr1 hrs hf hr2 hl0 hl1 hl2 hs0' hs2'
  have HT : Hid (Calls Trym.prog 6 #[.slice a0 len0 cap0, .slice a1 len1 cap1, .slice a2 len2 cap2, .slice none 0 0] w (SomeBool w)) := tooBig_any a0 len0 cap0 ss a1 len1 cap1 hs0 dss a2 len2 cap2 q w hr0 hr1 hrs hf hr2 hl0 hl1 hl2 hs0' hs2'
  have HR0 : Hid (Strs w a0 len0 ss) := hr0
  have HR1 : Hid (Row hv d0 w a1 len1 hs0) := hr1
  have HRS : Hid (Rows w hs0 dss) := hrs
  have HR2 : Hid (Strs w a2 len2 q) := hr2
  have HSZ : Hid (∀ s ∈ ss, s.size ≤ maxLen) := hs0'
  clear hr0 hr1 hrs hf hr2 hs0' hs2'
  go_enter Trym.func3, Trym.ntmps3
  go_wp2_with fail
  refine HB.out.mono ?_
  rintro e w' ⟨b, rfl, rfl, hsm⟩
  clear HB
  cases b with
  | false =>
    go_wp2
    go_ret
    exact ⟨rfl, Below.refl _ _⟩
  | true =>
  have HSM : Hid (Small ss dss q) := hsm rfl
  clear hsm
  go_wp2_with fail
  refine HT.out.mono ?_
  rintro e w' ⟨b, rfl, rfl⟩
  clear HT
  cases b with
  | true =>
    go_wp2
    go_ret
    exact ⟨rfl, Below.refl _ _⟩
  | false =>
  have g0 : len0 ≤ 1048576 := by rw [← HR0.out.1]; exact HSM.out.names
  have g1 : len1 ≤ 1048576 := by rw [← HR1.out.1, HRS.out.1]; exact HSM.out.deps
  have g2 : len2 ≤ 1048576 := by rw [← HR2.out.1]; exact HSM.out.query
  go_wp2_with fail
  refine (copyStrs_any a0 len0 cap0 ss _ HR0.out g0).mono ?_
  rintro e w1 ⟨b0, rfl, r0, bel1, -⟩
  have HQ0 : Hid (Strs w1 b0 ss.length ss) := r0
  have HB1 : Hid (Below w'.heap.size w' w1) := bel1
  clear r0 bel1
  go_wp2_with fail
  refine (copyNested_any a1 len1 cap1 hs0 dss _ (HR1.out.below HB1.out (Nat.le_refl _)) (HRS.out.below HB1.out (Nat.le_refl _)) g1 HSM.out.inner).mono ?_
  rintro e w2 ⟨b1, hs, rfl, r1, rs1, bel2⟩
  have HQ1 : Hid (Row hv d0 w2 b1 dss.length hs) := r1
  have HQS : Hid (Rows w2 hs dss) := rs1
  have HQ0' : Hid (Strs w2 b0 ss.length ss) := HQ0.out.below bel2 (Nat.le_refl _)
  have HB2 : Hid (Below w'.heap.size w' w2) := HB1.out.trans (bel2.mono HB1.out.size)
  clear r1 rs1 bel2 HQ0 HB1
  go_wp2_with fail
  refine (copyStrs_any a2 len2 cap2 q _ (HR2.out.below HB2.out (Nat.le_refl _)) g2).mono ?_
  rintro e w3 ⟨b2, rfl, r2, bel3, -⟩
  have HP0 : Hid (Strs w3 b0 ss.length ss) := HQ0'.out.below bel3 (Nat.le_refl _)
  have HP1 : Hid (Row hv d0 w3 b1 dss.length hs) := HQ1.out.below bel3 (Nat.le_refl _)
  have HPS : Hid (Rows w3 hs dss) := HQS.out.below bel3 (Nat.le_refl _)
  have HP2 : Hid (Strs w3 b2 q.length q) := r2
  have HB3 : Hid (Below w'.heap.size w' w3) := HB2.out.trans (bel3.mono HB2.out.size)
  clear r2 bel3 HQ0' HQ1 HQS HB2
  go_wp2_with fail
  refine (graph_any b0 ss.length ss.length ss b1 dss.length dss.length hs _ HP0.out HP1.out HSM.out.names HSM.out.deps HSZ.out).mono ?_
  rintro e w4 ⟨gb, mb, rfl, hgr, bel4⟩
  have HG : Hid (Graph w4 gb mb b0 ss.length ss.length (min ss.length hs.length) (givesAt ss hs (min ss.length hs.length))) := hgr
  have HN0 : Hid (Strs w4 b0 ss.length ss) := HP0.out.below bel4 (Nat.le_refl _)
  have HN1 : Hid (Row hv d0 w4 b1 dss.length hs) := HP1.out.below bel4 (Nat.le_refl _)
  have HNS : Hid (Rows w4 hs dss) := HPS.out.below bel4 (Nat.le_refl _)
  have HN2 : Hid (Strs w4 b2 q.length q) := HP2.out.below bel4 (Nat.le_refl _)
  have HB4 : Hid (Below w'.heap.size w' w4) := HB3.out.trans (bel4.mono HB3.out.size)
  clear hgr bel4 HP0 HP1 HPS HP2 HB3
  go_upto_region 9 with fail
  rename_i K hK
  have HK : Hid (∀ (a : Act) (w : World), Code.wp Trym.prog _ _ a w → K a w) := hK
  clear hK
  go_wp2_with fail
  refine (needs_any gb mb (min ss.length hs.length) (fun s => lastOf ss hs s (min ss.length hs.length)) (fun s => lastDs ss dss s (min ss.length hs.length)) b0 ss.length ss.length ss b2 q.length q.length q w4 HG.out HN0.out (fun s => HNS.out.last ss s _) HN2.out HSM.out.names HSM.out.query (fun s => lastDs_le HSM.out.inner ss s _) HSZ.out).mono ?_
  rintro e w5 ⟨ag, cg, ns, rfl, rg, ni, hnl, bel5⟩
  have HH : Hid (Here w5 b0 ss b1 hs dss b2 q ag ns) := ⟨HN0.out.below bel5 (Nat.le_refl _), HN1.out.below bel5 (Nat.le_refl _), HNS.out.below bel5 (Nat.le_refl _), HN2.out.below bel5 (Nat.le_refl _), rg, ni, HSM.out, hnl⟩
  have HB5 : Hid (Below w'.heap.size w' w5) := HB4.out.trans (bel5.mono HB4.out.size)
  clear rg ni bel5
  go_wp2
  refine HK.out _ _ ?_
  exact tail10 w' b0 ss b1 hs dss b2 q ag cg ns w5 HH.out HB5.out

end Go.Proofs.Qxb6600043aMods.L
