import Derived.Test.Qxb6001078aModsFNx
namespace Go.Proofs.Qxb6001078aMods.L
open Go.RowKit

/-- The first k lengths are lengths. -/
def Good (ns : List Int) (k : Nat) : Prop := ∀ i, i < k → 0 ≤ ns.getD i 0 ∧ ns.getD i 0 ≤ 65536
/-- their sum -/
def sumTo (ns : List Int) : Nat → Int
  | 0 => 0
  | k + 1 => sumTo ns k + ns.getD k 0

theorem sum_nonneg {ns : List Int} : ∀ {k : Nat}, Good ns k → 0 ≤ sumTo ns k
  | 0, _ => Int.le_refl _
  | k + 1, h => by
    have h1 := sum_nonneg (fun i hi => h i (by omega) : Good ns k)
    have h2 := h k (by omega)
    simp only [sumTo]
    omega

/-- Behind i rounds: what is left of the bytes, how far they were read, whether they ran short. -/
def St (bs : List Int) (ns : List Int) (i : Nat) (cs : List Int) (short : Bool) (pos : Nat) : Prop :=
  pos ≤ bs.length ∧ ((short = false ∧ (pos : Int) = sumTo ns i ∧ cs = bs.drop pos) ∨ (short = true ∧ (bs.length : Int) < sumTo ns i ∧ cs = []))

theorem St.start (bs ns : List Int) : St bs ns 0 bs false 0 := ⟨Nat.zero_le _, .inl ⟨rfl, rfl, rfl⟩⟩

theorem St.over {bs ns cs : List Int} {i pos n : Nat} {short : Bool} (h : St bs ns i cs short pos) (hn : ns.getD i 0 = (n : Int)) (hl : cs.length < n) : St bs ns (i + 1) [] true pos := by
  refine ⟨h.1, .inr ⟨rfl, ?_, rfl⟩⟩
  simp only [sumTo, hn]
  rcases h.2 with ⟨_, h2, h3⟩ | ⟨_, h2, _⟩
  · subst h3
    simp at hl
    omega
  · omega

theorem St.short {bs ns cs : List Int} {i pos n : Nat} (h : St bs ns i cs true pos) (hn : ns.getD i 0 = (n : Int)) : cs = [] ∧ St bs ns (i + 1) [] true pos := by
  rcases h.2 with ⟨h1, _⟩ | ⟨_, h2, h3⟩
  · cases h1
  · refine ⟨h3, h.1, .inr ⟨rfl, ?_, rfl⟩⟩
    simp only [sumTo, hn]
    omega

theorem St.go {bs ns cs : List Int} {i pos n : Nat} (h : St bs ns i cs false pos) (hn : ns.getD i 0 = (n : Int)) (hl : n ≤ cs.length) : pos + n ≤ bs.length ∧ cs.take n = (bs.take (pos + n)).drop pos ∧ St bs ns (i + 1) (cs.drop n) false (pos + n) := by
  rcases h.2 with ⟨_, h2, h3⟩ | ⟨h1, _⟩
  · subst h3
    have h0 := h.1
    simp at hl
    refine ⟨by omega, ?_, by omega, .inl ⟨rfl, ?_, ?_⟩⟩
    · rw [List.take_drop]
    · simp only [sumTo, hn]
      omega
    · rw [List.drop_drop]
  · cases h1

theorem St.len_le {bs ns cs : List Int} {i pos : Nat} {short : Bool} (h : St bs ns i cs short pos) : cs.length ≤ bs.length := by
  rcases h.2 with ⟨_, _, rfl⟩ | ⟨_, _, rfl⟩
  · simp
  · simp

theorem St.end_true {bs ns cs : List Int} {i pos : Nat} (h : St bs ns i cs true pos) : (bs.length : Int) < sumTo ns i ∧ cs = [] := by
  rcases h.2 with ⟨h1, _⟩ | ⟨_, h⟩
  · cases h1
  · exact h
theorem St.end_false {bs ns cs : List Int} {i pos : Nat} (h : St bs ns i cs false pos) : (pos : Int) = sumTo ns i ∧ cs = bs.drop pos := by
  rcases h.2 with ⟨_, h⟩ | ⟨h1, _⟩
  · exact h
  · cases h1

theorem Row.drewN {α : Type} {val : α → Value} {d : α} {w : World} {a : Option Addr} {len : Nat} {xs : List α} (h : Row val d w a len xs) (q : Nat) : Row val d (w.drewN q) a len xs :=
  h.below (B := w.heap.size) ⟨rfl, rfl, rfl, Nat.le_refl _, fun _ _ => rfl⟩ (Nat.le_refl _)
theorem below_drewN {B : Nat} {a w : World} (h : Below B a w) (n : Nat) : Below B a (w.drewN n) := h.trans ⟨rfl, rfl, rfl, Nat.le_refl _, fun _ _ => rfl⟩

def Post (w : World) (e : Ending) (w' : World) : Prop := e = .returned (.bool true) ∧ Below w.heap.size w w'

set_option maxHeartbeats 1000000 in
set_option maxRecDepth 100000 in
theorem law_any (a : Option Addr) (len cap : Nat) (bs : List Int) (a' : Option Addr) (len' cap' : Nat) (ns : List Int) (w : World) (hr : Row (Value.int .u8) 0 w a len bs) (hr' : Row (Value.int .i64) 0 w a' len' ns) (hlen : len ≤ maxLen) (hlen' : len' ≤ maxLen) :
    Calls Trym.prog 4 #[.slice a len cap, .slice a' len' cap'] w (Post w) := by
  have HB : Hid (Calls Trym.prog 13 #[.slice a len cap, .slice a' len' cap'] w (SomeBool w)) := bytes_any a a' len cap len' cap' w hlen hlen'
  have HC : Hid (len ≤ 1048576 → Calls Trym.prog 14 #[.slice a len cap] w (ClonePost (Value.int .u8) 0 bs w)) := cloneBytes_any a len cap bs w hr
  have HR' : Hid (Row (Value.int .i64) 0 w a' len' ns) := hr'
  have hL : len = bs.length := hr.1.symm
  have hL' : len' = ns.length := hr'.1.symm
  subst hL hL'
  clear hr hr'
  unfold maxLen at hlen hlen'
  go_enter Trym.func4, Trym.ntmps4
  go_wp2_with fail
  refine HB.out.mono ?_
  rintro e w' ⟨b, rfl, rfl⟩
  clear HB
  cases b with
  | false =>
    go_wp2
    go_ret
    exact ⟨rfl, Below.refl _ _⟩
  | true =>
  by_cases h1 : 1048576 < bs.length
  · go_wp2
    go_ret
    exact ⟨rfl, Below.refl _ _⟩
  by_cases h2 : 65536 < ns.length
  · go_wp2
    go_ret
    exact ⟨rfl, Below.refl _ _⟩
  by_cases h3 : 1048576 < bs.length + 8 * ns.length
  · go_wp2
    go_ret
    exact ⟨rfl, Below.refl _ _⟩
  have d1 : decide ((1048576 : Int) < (bs.length : Int)) = false := by simp; omega
  have d2 : decide ((65536 : Int) < (ns.length : Int)) = false := by simp; omega
  have d3 : decide ((1048576 : Int) < (bs.length : Int) + 8 * (ns.length : Int)) = false := by simp; omega
  go_wp2
  go_loop [5, 6] (fun s i => ∃ k : Nat, k ≤ ns.length ∧ i = .int .i64 k ∧ s = .int .i64 (sumTo ns k) ∧ Good ns k ∧ sumTo ns k ≤ 1048576) (fun _ i => ns.length - (intOf i).toNat)
  case atStart => exact ⟨0, Nat.zero_le _, rfl, rfl, fun i hi => by omega, by simp [sumTo]⟩
  case round =>
    obtain ⟨k, hk, rfl, rfl, hgood, hsum⟩ := hrel
    have hnn := sum_nonneg hgood
    by_cases hlt : k < ns.length
    · obtain ⟨b', off', rfl, hb', hc'⟩ := HR'.out.at_pos (by omega)
      have hcx := hc'.out k hlt
      obtain ⟨z, hze⟩ : ∃ z, z = ns.getD k 0 := ⟨_, rfl⟩
      rw [← hze] at hcx
      have HZ : Hid (z = ns.getD k 0) := hze
      obtain ⟨S, hSe⟩ : ∃ S, S = sumTo ns k := ⟨_, rfl⟩
      rw [← hSe] at hsum hnn ⊢
      have HS : Hid (S = sumTo ns k) := hSe
      clear hze hSe
      by_cases z0 : z < 0
      · go_wp2
        go_ret
        exact ⟨rfl, Below.refl _ _⟩
      by_cases z1 : 65536 < z
      · go_wp2
        go_ret
        exact ⟨rfl, Below.refl _ _⟩
      by_cases z2 : 1048576 < S + z
      · go_wp2
        go_ret
        exact ⟨rfl, Below.refl _ _⟩
      go_wp2
      go_round
      case rel =>
        refine ⟨k + 1, by omega, by go_num, ?_, fun i hi => ?_, ?_⟩
        · rw [sumTo, ← HZ.out, ← HS.out]
        · by_cases e : i = k
          · subst e; rw [← HZ.out]; omega
          · exact hgood i (by omega)
        · rw [sumTo, ← HZ.out, ← HS.out]; omega
      case measure => simp [intOf]; omega
    · have hkl : k = ns.length := by omega
      subst hkl
      go_wp2_with fail
      refine (HC.out (by omega)).mono ?_
      rintro e w1 ⟨ab, rfl, hrb, hbel1⟩
      have HR1 := HR'.out.below hbel1 (Nat.le_refl _)
      have HC2 : Hid (Calls Trym.prog 15 #[.slice a' ns.length cap'] w1 (ClonePost (Value.int .i64) 0 ns w1)) := cloneInts_any a' ns.length cap' ns w1 HR1 (by omega)
      clear HR1
      go_wp2_with fail
      refine HC2.out.mono ?_
      rintro e w2 ⟨an, rfl, hrn, hbel2⟩
      have hrb2 := hrb.below hbel2 (Nat.le_refl _)
      have HRB : Hid (Row (Value.int .u8) 0 w2 ab bs.length bs) := hrb2
      have HRN : Hid (Row (Value.int .i64) 0 w2 an ns.length ns) := hrn
      have HBL : Hid (Below w'.heap.size w' w2) := hbel1.trans (hbel2.mono hbel1.size)
      obtain ⟨S, hSe⟩ : ∃ S, S = sumTo ns ns.length := ⟨_, rfl⟩
      rw [← hSe] at hsum hnn ⊢
      have HS : Hid (S = sumTo ns ns.length) := hSe
      clear hSe hrb hrb2 hrn hbel1 hbel2 HC HC2 hlt
      go_wp2
      go_loopw [7, 8, 9, 10] (fun cur sh p i wr => ∃ (k : Nat) (cs : List Int) (ac : Option Addr) (cc : Nat) (short : Bool) (pos : Nat), k ≤ ns.length ∧ i = .int .i64 k ∧ cur = .slice ac cs.length cc ∧ sh = .bool short ∧ p = .int .i64 pos ∧ St bs ns k cs short pos ∧ Row (Value.int .u8) 0 wr ac cs.length cs ∧ cs.length ≤ cc ∧ cc ≤ maxLen ∧ Below w2.heap.size w2 wr) (fun _ _ _ i _ => ns.length - (intOf i).toNat)
      case atStart => exact ⟨0, bs, ab, bs.length, false, 0, Nat.zero_le _, rfl, rfl, rfl, rfl, St.start bs ns, HRB.out, Nat.le_refl _, by unfold maxLen; omega, Below.refl _ _⟩
      case round =>
        obtain ⟨k, cs, ac, cc, short, pos, hk, rfl, rfl, rfl, rfl, hst, hrow, hcc, hccm, hbel⟩ := hrel
        have hpos := hst.1
        have hcsl : cs.length ≤ 1048576 := by have := hst.len_le; omega
        by_cases hlt : k < ns.length
        · obtain ⟨b', off', rfl, hb', hc'⟩ := HRN.out.at_pos (by omega)
          have hcx : wr.cell? ⟨b', off' + k, none⟩ = some (.int .i64 (ns.getD k 0)) := (hbel.cell (p := ⟨b', off' + k, none⟩) hb').trans (hc'.out k hlt)
          have hgk := hgood k hlt
          obtain ⟨n, hne⟩ : ∃ n : Nat, ns.getD k 0 = (n : Int) := ⟨(ns.getD k 0).toNat, by omega⟩
          rw [hne] at hcx hgk
          have HN : Hid (ns.getD k 0 = (n : Int)) := hne
          have HST : Hid (St bs ns k cs short pos) := hst
          clear hne hst
          by_cases hov : cs.length < n
          · cases short
            all_goals
              go_wp2_with fail
              refine (next_over ac cs.length cc _ n wr hov (by omega)).mono ?_
              rintro e w3 ⟨a1, c1, a2, c2, rfl, r1, r2, hc2, hm2, hb3⟩
              go_wp2_with fail
              refine (allZero_any a1 n c1 (List.replicate n 0) w3 r1 (fun i hi => by simp [List.getD, hi]) (by omega)).mono ?_
              rintro e w4 ⟨rfl, rfl⟩
              clear hcx
              go_wp2
              go_roundw
              case rel => exact ⟨k + 1, [], a2, c2, true, pos, by omega, by go_num, rfl, rfl, rfl, HST.out.over HN.out hov, r2, hc2, hm2, hbel.trans (hb3.mono hbel.size)⟩
              case measure => simp [intOf]; omega
          · cases short with
            | true =>
              obtain ⟨rfl, hst'⟩ := HST.out.short HN.out
              have HST' : Hid (St bs ns (k + 1) [] true pos) := hst'
              clear hst'
              have hn0 : n = 0 := by simp at hov; omega
              subst hn0
              go_wp2_with fail
              refine (next_in ac 0 cc true 0 [] wr hrow (Nat.le_refl _) (by omega) hcc hccm).mono ?_
              rintro e w3 ⟨a1, c1, a2, c2, rfl, r1, r2, hc2, hm2, hb3⟩
              go_wp2_with fail
              refine (allZero_any a1 0 c1 [] w3 r1 (fun i hi => by omega) (by omega)).mono ?_
              rintro e w4 ⟨rfl, rfl⟩
              clear hcx
              go_wp2
              go_roundw
              case rel => exact ⟨k + 1, [], a2, c2, true, pos, by omega, by go_num, rfl, rfl, rfl, HST'.out, r2, hc2, hm2, hbel.trans (hb3.mono hbel.size)⟩
              case measure => simp [intOf]; omega
            | false =>
              obtain ⟨hpn, htk, hst'⟩ := HST.out.go HN.out (by omega)
              have HTK : Hid (cs.take n = (bs.take (pos + n)).drop pos) := htk
              have HST' : Hid (St bs ns (k + 1) (cs.drop n) false (pos + n)) := hst'
              clear htk hst'
              have hcut := run_cut_lh ab bs.length bs.length pos n hpn
              have hpnI : (pos : Int) + (n : Int) ≤ (bs.length : Int) := by omega
              go_wp2_with fail
              refine (next_in ac cs.length cc false n cs wr hrow (by omega) (by omega) hcc hccm).mono ?_
              rintro e w3 ⟨a1, c1, a2, c2, rfl, r1, r2, hc2, hm2, hb3⟩
              have HB3 : Hid (Below w2.heap.size w2 w3) := hbel.trans (hb3.mono hbel.size)
              have hrs := (HRB.out.below HB3.out (Nat.le_refl _)).sub (l := pos) (h := pos + n) (cap := bs.length) (by omega) hpn (Nat.le_refl _)
              rw [show pos + n - pos = n by omega, ← HTK.out] at hrs
              clear hcx
              go_wp2_with fail
              refine (sameBytes_any a1 (cutA ab bs.length pos) n c1 (bs.length - pos) (cs.take n) w3 r1 hrs (by omega)).mono ?_
              rintro e w4 ⟨rfl, q, rfl⟩
              clear hrs r1 hcut
              go_wp2
              go_roundw
              case rel => exact ⟨k + 1, cs.drop n, a2, c2, false, pos + n, by omega, by go_num, by simp, rfl, by go_num, HST'.out, r2.drewN q, hc2, hm2, below_drewN HB3.out q⟩
              case measure => simp [intOf]; omega
        · have hkl : k = ns.length := by omega
          subst hkl
          cases short with
          | true =>
            obtain ⟨hS, rfl⟩ := hst.end_true
            rw [← HS.out] at hS
            clear hst
            go_wp2
            go_ret
            exact ⟨rfl, HBL.out.trans (hbel.mono HBL.out.size)⟩
          | false =>
            obtain ⟨hS, hcs⟩ := hst.end_false
            rw [← HS.out] at hS
            have hlp : (cs.length : Int) = bs.length - pos := by rw [hcs]; simp; omega
            have hnat : cs.length = bs.length - pos := by omega
            have hd : ¬ ((bs.length : Int) < S) := by omega
            have hd' : decide ((bs.length : Int) < S) = false := by simpa using hd
            have heq : ((pos : Int) + (cs.length : Int) == (bs.length : Int)) = true := by simp; omega
            have hcut := run_cut_l ab bs.length bs.length pos hpos
            rw [← hnat] at hcut
            have hrs := (HRB.out.below hbel (Nat.le_refl _)).sub (l := pos) (h := bs.length) (cap := bs.length) hpos (Nat.le_refl _) (Nat.le_refl _)
            rw [List.take_length, ← hcs, ← hnat] at hrs
            clear hS hst hlp hnat hcs hd
            go_wp2_with fail
            refine (sameBytes_any ac (cutA ab bs.length pos) cs.length cc cs.length cs wr hrow hrs (by omega)).mono ?_
            rintro e w4 ⟨rfl, q, rfl⟩
            go_wp2
            go_ret
            exact ⟨rfl, below_drewN (HBL.out.trans (hbel.mono HBL.out.size)) q⟩

end Go.Proofs.Qxb6001078aMods.L
