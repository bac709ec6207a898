import Derived.Test.Qxb6001078aModsSFn
import Derived.Maps.OwnSet
import Derived.Maps.OwnOps
namespace Go.Proofs.Qxb6001078aMods.L
open Go.RowKit Go.Maps Go.WideMaps

theorem law9 : Keyed Trym.prog 9 := string_keyed Trym.underlying9
theorem zero2 (w : World) : (zeroValue 2).run Trym.prog w = .ok (.int .i64 0) w := by kernel_rfl
theorem run_makeMap30 (n : Int) (w : World) : (Instr.makeMap 30 (some (.int .i64 n))).run Trym.prog w = .ok (.map (some w.heap.size)) (w.alloc (.map #[] 0)) := by
  kernel_rfl

def BuildPost (w : World) (n : Nat) (e : Ending) (w' : World) : Prop :=
  ∃ mb D, e = .returned (.map (some mb)) ∧ w'.ownsMap (H := Unit) Trym.prog 9 (plainElem Trym.prog 2) mb n D ∧ Below w.heap.size w w'

def Built (w : World) (k : Nat) (wr : World) : Prop := ∃ D, wr.ownsMap (H := Unit) Trym.prog 9 (plainElem Trym.prog 2) w.heap.size k D ∧ Below w.heap.size w wr

theorem Built.start (w : World) : Built w 0 (w.alloc (.map #[] 0)) := ⟨_, World.ownsMap_made _ _ _ _, (Below.refl _ _).alloc (Nat.le_refl _) _⟩

theorem Built.step {w wr : World} {k : Nat} (h : Built w k wr) (hk : k < 65536) {s : ByteArray} (hs : s.size ≤ maxLen) {z : Int} (hz : (Lit.int .i64 z).wf = true) :
    ∃ w1, (Instr.mapUpdate 30 (.map (some w.heap.size)) (.string s) (.int .i64 z)).run Trym.prog wr.drew = .ok () w1 ∧ Built w (k + 1) w1 := by
  obtain ⟨D, hown, hb⟩ := h
  obtain ⟨w1, hrun, hown1, hg⟩ := hown.drew.update law9 Trym.underlying30 (by unfold maxLen; omega) (keyOf_string_mk Trym.underlying9 hs) (plainElem_int Trym.underlying2 hz)
  exact ⟨w1, hrun, _, hown1, hb.drew.grown hg hb.size (fun k e => by cases e; exact Nat.le_refl _)⟩

set_option maxHeartbeats 1000000 in
theorem build_any (a : Option Addr) (len cap : Nat) (ss : List ByteArray) (a' : Option Addr) (len' cap' : Nat) (zs : List Int) (n : Nat) (w : World) (hr : Row Value.string ByteArray.empty w a len ss) (hr' : Row (Value.int .i64) 0 w a' len' zs)
    (hn : n ≤ len) (hn' : n ≤ len') (h6 : n ≤ 65536) (hs : ∀ s ∈ ss, s.size ≤ maxLen) (hz : ∀ z ∈ zs, (Lit.int .i64 z).wf = true) :
    Calls Trym.prog 10 #[.slice a len cap, .slice a' len' cap', .int .i64 n] w (BuildPost w n) := by
  have hmm := run_makeMap30 n
  have hst := Built.start w
  have HS : Hid (∀ s ∈ ss, s.size ≤ maxLen) := hs
  have HZ : Hid (∀ z ∈ zs, (Lit.int .i64 z).wf = true) := hz
  have hl := hr.1
  have hl' := hr'.1
  subst hl hl'
  clear hs hz
  go_enter Trym.func10, Trym.ntmps10
  go_wp2
  go_loopw [8] (fun i wr => ∃ k : Nat, k ≤ n ∧ i = .int .i64 k ∧ Built w k wr) (fun i _ => n - (intOf i).toNat)
  case atStart => exact ⟨0, Nat.zero_le _, rfl, hst⟩
  case round =>
    obtain ⟨k, hk, rfl, hbu⟩ := hrel
    clear hst
    by_cases hlt : k < n
    · obtain ⟨b, off, rfl, hb, hc⟩ := hr.at_pos (by omega)
      obtain ⟨b', off', rfl, hb', hc'⟩ := hr'.at_pos (by omega)
      have hbel := hbu.choose_spec.2
      have hcx : wr.cell? ⟨b, off + k, none⟩ = some (.string (ss.getD k ByteArray.empty)) := (hbel.cell (p := ⟨b, off + k, none⟩) hb).trans (hc.out k (by omega))
      have hcx' : wr.cell? ⟨b', off' + k, none⟩ = some (.int .i64 (zs.getD k 0)) := (hbel.cell (p := ⟨b', off' + k, none⟩) hb').trans (hc'.out k (by omega))
      have hsz := getD_le HS.out k
      have hwz : (Lit.int .i64 (zs.getD k 0)).wf = true := by
        rw [List.getD, List.getElem?_eq_getElem (by omega)]
        exact HZ.out _ (List.getElem_mem _)
      obtain ⟨s, hse⟩ : ∃ s, s = ss.getD k ByteArray.empty := ⟨_, rfl⟩
      obtain ⟨z, hze⟩ : ∃ z, z = zs.getD k 0 := ⟨_, rfl⟩
      rw [← hse] at hcx hsz
      rw [← hze] at hcx' hwz
      obtain ⟨w1, hrun, hnext⟩ := hbu.step (by omega) hsz hwz
      have h1 : (0 : Int) ≤ (k : Int) := by omega
      have h2 : (k : Int) < (ss.length : Int) := by omega
      have h3 : (k : Int) < (zs.length : Int) := by omega
      clear hse hze hbu hbel hsz hwz
      go_wp2
      go_region
      go_wp2
      go_roundw
      case rel => exact ⟨k + 1, by omega, by go_num, hnext⟩
      case measure => simp [intOf]; omega
    · go_wp2
      go_ret
      have : k = n := by omega
      subst this
      obtain ⟨D, h1, h2⟩ := hbu
      exact ⟨_, D, rfl, h1, h2⟩

/-- What the look-up finds. -/
theorem look_any {w : World} {mb n : Nat} {D : DataW Unit} (h : w.ownsMap Trym.prog 9 (plainElem Trym.prog 2) mb n D) {key : ByteArray} (hk : key.size ≤ maxLen) :
    ∃ c f, (Instr.lookup 30 (.map (some mb)) (.string key) true).run Trym.prog w = .ok (.tuple #[.int .i64 c, .bool f]) w ∧ (Lit.int .i64 c).wf = true := by
  obtain ⟨v, ps, hrun, hv⟩ := h.look_ok law9 Trym.underlying30 (zero2 w) (plainElem_int Trym.underlying2 (by decide)) (keyOf_string_mk Trym.underlying9 hk)
  obtain ⟨c, rfl, hc, hwc⟩ := plainElem_int_inv Trym.underlying2 hv
  exact ⟨c, _, hrun, hwc⟩

/-- 'stateOf' -/
def stateNo (c : Int) (f : Bool) (s : Int) : Int := if f then (if c = wrap64 s then 0 else 2) else 1

set_option maxHeartbeats 400000 in
theorem state_any (mb : Nat) (key : ByteArray) (s c : Int) (f : Bool) (w : World) (h : (Instr.lookup 30 (.map (some mb)) (.string key) true).run Trym.prog w = .ok (.tuple #[.int .i64 c, .bool f]) w) :
    Calls Trym.prog 11 #[.map (some mb), .string key, .int .u64 s] w fun e w' => e = .returned (.int .i64 (stateNo c f s)) ∧ w' = w := by
  cases f with
  | false =>
    go_enter Trym.func11, Trym.ntmps11
    go_wp2
    go_ret
    exact ⟨rfl, rfl⟩
  | true =>
    by_cases hc : c = wrap64 s
    · have hd : (c != wrap64 s) = false := by simp [hc]
      have e : stateNo c true s = 0 := by simp [stateNo, hc]
      rw [e]
      clear hc e
      go_enter Trym.func11, Trym.ntmps11
      go_wp2
      go_ret
      exact ⟨rfl, rfl⟩
    · have hd : (c != wrap64 s) = true := by simp [hc]
      have e : stateNo c true s = 2 := by simp [stateNo, hc]
      rw [e]
      clear hc e
      go_enter Trym.func11, Trym.ntmps11
      go_wp2
      go_ret
      exact ⟨rfl, rfl⟩

end Go.Proofs.Qxb6001078aMods.L
