import Derived.Test.Qxb6001078aModsSMp
import Derived.OpenShut
namespace Go.Proofs.Qxb6001078aMods.L
open Go.RowKit Go.Maps Go.WideMaps

def Post (w : World) (e : Ending) (w' : World) : Prop := e = .returned (.bool true) ∧ Below w.heap.size w w'

/-- The two answers, as the law's own tests see them. -/
def Fits (a b s1 s2 : Int) : Prop :=
  (s1 = s2 ∧ a = b ∧ (a = 0 ∨ a = 1 ∨ a = 2)) ∨ (s1 ≠ s2 ∧ ((a = 1 ∧ b = 1) ∨ (a = 0 ∧ b = 2) ∨ (a = 2 ∧ b = 0) ∨ (a = 2 ∧ b = 2)))

theorem wrap_inj {s1 s2 : Int} (h1 : (Lit.int .u64 s1).wf = true) (h2 : (Lit.int .u64 s2).wf = true) (h : wrap64 s1 = wrap64 s2) : s1 = s2 := by
  have b1 : 0 ≤ s1 ∧ s1 ≤ 18446744073709551615 := Go.bounds_u64 h1
  have b2 : 0 ≤ s2 ∧ s2 ≤ 18446744073709551615 := Go.bounds_u64 h2
  unfold wrap64 at h
  omega

theorem state_fits {s1 s2 c : Int} {f : Bool} (h1 : (Lit.int .u64 s1).wf = true) (h2 : (Lit.int .u64 s2).wf = true) : Fits (stateNo c f s1) (stateNo c f s2) s1 s2 := by
  by_cases hs : s1 = s2
  · subst hs
    refine .inl ⟨rfl, rfl, ?_⟩
    unfold stateNo
    split
    · split
      · exact .inl rfl
      · exact .inr (.inr rfl)
    · exact .inr (.inl rfl)
  · refine .inr ⟨hs, ?_⟩
    have hne : wrap64 s1 ≠ wrap64 s2 := fun e => hs (wrap_inj h1 h2 e)
    unfold stateNo
    cases f with
    | false => exact .inl ⟨rfl, rfl⟩
    | true =>
      by_cases e1 : c = wrap64 s1
      · have e2 : ¬ c = wrap64 s2 := fun e => hne (e1.symm.trans e)
        rw [if_pos rfl, if_pos e1, if_neg e2]
        exact .inr (.inl ⟨rfl, rfl⟩)
      · by_cases e2 : c = wrap64 s2
        · rw [if_pos rfl, if_neg e1, if_pos e2]
          exact .inr (.inr (.inl ⟨rfl, rfl⟩))
        · rw [if_pos rfl, if_neg e1, if_neg e2]
          exact .inr (.inr (.inr ⟨rfl, rfl⟩))

set_option maxHeartbeats 2000000 in
theorem state_law_any (a : Option Addr) (len cap : Nat) (ss : List ByteArray) (a' : Option Addr) (len' cap' : Nat) (zs : List Int) (key : ByteArray) (s1 s2 : Int) (w : World) (hr : Row Value.string ByteArray.empty w a len ss) (hr' : Row (Value.int .i64) 0 w a' len' zs)
    (hlen : len ≤ maxLen) (hlen' : len' ≤ maxLen) (hs : ∀ s ∈ ss, s.size ≤ maxLen) (hz : ∀ z ∈ zs, (Lit.int .i64 z).wf = true) (hk : key.size ≤ maxLen) (h1 : (Lit.int .u64 s1).wf = true) (h2 : (Lit.int .u64 s2).wf = true) :
    Calls Trym.prog 3 #[.slice a len cap, .slice a' len' cap', .string key, .int .u64 s1, .int .u64 s2] w (Post w) := by
  have HB : Hid (Calls Trym.prog 5 #[.slice a len cap, .slice a' len' cap', .string key, .int .u64 s1, .int .u64 s2] w (BytesPost ss w)) := bytesS_any a len cap ss a' len' cap' key s1 s2 w hr hlen hs hlen' hk
  have HT : Hid (Short ss ss.length → Calls Trym.prog 6 #[.slice a len cap, .slice a' len' cap', .int .i64 key.size] w (BigPost len len' w)) := fun h => tooBig_any a len cap ss a' len' cap' key.size w hr hlen h hlen' hk
  have HR : Hid (Row Value.string ByteArray.empty w a len ss) := hr
  have HR' : Hid (Row (Value.int .i64) 0 w a' len' zs) := hr'
  have HS : Hid (∀ s ∈ ss, s.size ≤ maxLen) := hs
  have HZ : Hid (∀ z ∈ zs, (Lit.int .i64 z).wf = true) := hz
  have HF : Hid (∀ c f, Fits (stateNo c f s1) (stateNo c f s2) s1 s2) := fun c f => state_fits h1 h2
  have HK : Hid (key.size ≤ maxLen) := hk
  have hL : len = ss.length := hr.1.symm
  have hL' : len' = zs.length := hr'.1.symm
  subst hL hL'
  have hk' : key.size ≤ 9223372036854775807 := by unfold maxLen at hk; omega
  clear hr hr' hs hz hk h1 h2
  unfold maxLen at hlen hlen'
  go_enter Trym.func3, Trym.ntmps3
  go_wp2_with fail
  refine HB.out.mono ?_
  rintro e w' ⟨b, rfl, rfl, hb⟩
  clear HB
  cases b with
  | false =>
    go_wp2
    go_ret
    exact ⟨rfl, Below.refl _ _⟩
  | true =>
  have hsh := hb rfl
  clear hb
  go_wp2_with fail
  refine (HT.out hsh).mono ?_
  rintro e w' ⟨b, rfl, rfl, hb⟩
  clear HT
  cases b with
  | true =>
    go_wp2
    go_ret
    exact ⟨rfl, Below.refl _ _⟩
  | false =>
  obtain ⟨hl1, hl2⟩ := hb rfl
  clear hb hsh
  go_wp2_with fail
  refine (cloneStrings_any a ss.length cap ss _ HR.out (by omega)).mono ?_
  rintro e w1 ⟨ak, rfl, hrk, hbel1⟩
  have hr1 := HR'.out.below hbel1 (Nat.le_refl _)
  go_wp2_with fail
  refine (cloneInt64s_any a' zs.length cap' zs w1 hr1 (by omega)).mono ?_
  rintro e w2 ⟨av, rfl, hrv, hbel2⟩
  have hrk2 := hrk.below hbel2 (Nat.le_refl _)
  have hbl : Below w'.heap.size w' w2 := hbel1.trans (hbel2.mono hbel1.size)
  clear hrk hr1 hbel1 hbel2
  go_wp2_with fail
  refine (pairCount_any ak av ss.length ss.length zs.length zs.length w2).mono ?_
  rintro e w3 ⟨rfl, rfl⟩
  obtain ⟨n, hn⟩ : ∃ n, n = min ss.length zs.length := ⟨_, rfl⟩
  rw [← hn]
  have hn1 : n ≤ ss.length := by omega
  have hn2 : n ≤ zs.length := by omega
  clear hn
  go_wp2_with fail
  refine (build_any ak ss.length ss.length ss av zs.length zs.length zs n w3 hrk2 hrv hn1 hn2 (by omega) HS.out HZ.out).mono ?_
  rintro e w4 ⟨mb, D, rfl, hown, hbel4⟩
  obtain ⟨c, f, hlook, _⟩ := look_any hown HK.out
  have hfit := HF.out c f
  have hbl4 : Below w'.heap.size w' w4 := hbl.trans (hbel4.mono hbl.size)
  clear hrk2 hrv hbl hbel4 hown
  obtain ⟨x1, hx1⟩ : ∃ x, x = stateNo c f s1 := ⟨_, rfl⟩
  obtain ⟨x2, hx2⟩ : ∃ x, x = stateNo c f s2 := ⟨_, rfl⟩
  rw [← hx1, ← hx2] at hfit
  have HX1 : Hid (x1 = stateNo c f s1) := hx1
  have HX2 : Hid (x2 = stateNo c f s2) := hx2
  have HLK : Hid ((Instr.lookup 30 (.map (some mb)) (.string key) true).run Trym.prog w4 = .ok (.tuple #[.int .i64 c, .bool f]) w4) := hlook
  clear hx1 hx2 hlook
  go_wp2_with fail
  refine (state_any mb key s1 c f w4 HLK.out).mono ?_
  rintro e w5 ⟨rfl, rfl⟩
  rw [← HX1.out]
  go_wp2_with fail
  refine (state_any mb key s2 c f w5 HLK.out).mono ?_
  rintro e w6 ⟨rfl, rfl⟩
  rw [← HX2.out]
  clear HX1 HX2 HLK
  rcases hfit with ⟨rfl, rfl, rfl | rfl | rfl⟩ | ⟨hne, ⟨rfl, rfl⟩ | ⟨rfl, rfl⟩ | ⟨rfl, rfl⟩ | ⟨rfl, rfl⟩⟩
  all_goals
    go_wp2
    go_ret
    exact ⟨rfl, hbl4⟩

end Go.Proofs.Qxb6001078aMods.L
