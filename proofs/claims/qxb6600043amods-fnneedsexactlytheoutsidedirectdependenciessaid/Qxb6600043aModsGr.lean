import Derived.Test.Qxb6600043aModsSp
import Derived.Maps.OwnSet
import Derived.Maps.OwnOps
namespace Go.Proofs.Qxb6600043aMods.L
open Go.RowKit Go.Maps Go.WideMaps

theorem law9 : Keyed Trym.prog 9 := string_keyed Trym.underlying9
theorem zero22 (w : World) : (zeroValue 22).run Trym.prog w = .ok (.slice none 0 0) w := by kernel_rfl
theorem run_makeMap35 (w : World) : (Instr.makeMap 35 none).run Trym.prog w = .ok (.map (some w.heap.size)) (w.alloc (.map #[] 0)) := by
  kernel_rfl

abbrev kl (s : ByteArray) : Lit := .string s.data.toList
theorem kl_inj {s t : ByteArray} (h : kl s = kl t) : s = t := by
  cases s; cases t
  simp at h
  rw [h]

/-- the map's elements, taken as they are -/
def heldElem (v : Value) : Option (DataW Value × List MemPlace) := some (.held v, [])

/-- block mb is a map that gives 'f s' at s -/
def MapSt (w : World) (mb n : Nat) (f : ByteArray → Value) : Prop :=
  ∃ D : DataW Value, w.ownsMap Trym.prog 9 heldElem mb n D ∧ IsMap D ∧ ∀ s, D.atKey (kl s) (.held (.slice none 0 0)) = .held (f s)

theorem MapSt.made (w : World) : MapSt (w.alloc (.map #[] 0)) w.heap.size 0 (fun _ => .slice none 0 0) :=
  ⟨_, World.ownsMap_made _ _ _ _, isMap_empty, fun _ => rfl⟩

theorem MapSt.below {w w' : World} {mb n : Nat} {f : ByteArray → Value} (h : MapSt w mb n f) (hb : Below w.heap.size w w') : MapSt w' mb n f := by
  obtain ⟨D, h1, h2, h3⟩ := h
  exact ⟨D, h1.kept (row := none) ⟨hb.os, hb.tape, hb.output, hb.size, fun k hk _ => hb.block k hk⟩ (by simp), h2, h3⟩

theorem MapSt.look {w : World} {mb n : Nat} {f : ByteArray → Value} (h : MapSt w mb n f) {s : ByteArray} (hs : s.size ≤ maxLen) :
    (Instr.lookup 35 (.map (some mb)) (.string s) false).run Trym.prog w = .ok (f s) w := by
  obtain ⟨D, h1, h2, h3⟩ := h
  obtain ⟨v, ps, hrun, hv⟩ := h1.lookup law9 Trym.underlying35 (zero22 w) (zd := .held (.slice none 0 0)) (zp := []) rfl (keyOf_string_mk Trym.underlying9 hs)
  rw [h3 s] at hv
  have e : v = f s := by
    simp only [heldElem, Option.some.injEq, Prod.mk.injEq, DataW.held.injEq] at hv
    exact hv.1
  rw [← e]
  exact hrun

theorem MapSt.put {w : World} {mb n : Nat} {f : ByteArray → Value} (h : MapSt w mb n f) (hn : n < 1048576) {s : ByteArray} (hs : s.size ≤ maxLen) (v : Value) {f' : ByteArray → Value} (hf1 : f' s = v) (hf2 : ∀ t, t ≠ s → f' t = f t) :
    ∃ w1, (Instr.mapUpdate 35 (.map (some mb)) (.string s) v).run Trym.prog w.drew = .ok () w1 ∧ MapSt w1 mb (n + 1) f' ∧ w.drew.grownBy w1 (some mb) := by
  obtain ⟨D, h1, h2, h3⟩ := h
  obtain ⟨w1, hrun, hown1, hg⟩ := h1.drew.update law9 Trym.underlying35 (by unfold maxLen; omega) (keyOf_string_mk Trym.underlying9 hs) (d := .held v) (ps := []) (val := v) rfl
  refine ⟨w1, hrun, ⟨_, hown1, h2.put _ _, fun t => ?_⟩, hg⟩
  by_cases e : t = s
  · subst e
    rw [hf1]
    exact atKey_put_same h2 (show WideAt.IsKeyLit (kl t) from trivial) _ _
  · rw [hf2 t e, ← h3 t]
    exact atKey_put_other (fun e' => e (kl_inj e')) _ _

/-- what the map gives after k declarations -/
def givesAt (ss : List ByteArray) (hs : List Hdr) (k : Nat) (s : ByteArray) : Value := hv (lastOf ss hs s k)

def Built (w : World) (ss : List ByteArray) (hs : List Hdr) (k : Nat) (wr : World) : Prop := MapSt wr w.heap.size k (givesAt ss hs k) ∧ Below w.heap.size w wr

theorem Built.start (w : World) (ss : List ByteArray) (hs : List Hdr) : Built w ss hs 0 (w.alloc (.map #[] 0)) := ⟨MapSt.made w, (Below.refl _ _).alloc (Nat.le_refl _) _⟩

theorem Built.step {w wr : World} {ss : List ByteArray} {hs : List Hdr} {k : Nat} (h : Built w ss hs k wr) (hk : k < 1048576) {s : ByteArray} (hse : s = ss.getD k ByteArray.empty) (hs' : s.size ≤ maxLen) {v : Value} (hv' : v = hv (hs.getD k d0)) :
    ∃ w1, (Instr.mapUpdate 35 (.map (some w.heap.size)) (.string s) v).run Trym.prog wr.drew = .ok () w1 ∧ Built w ss hs (k + 1) w1 := by
  obtain ⟨hm, hb⟩ := h
  obtain ⟨w1, hrun, hm1, hg⟩ := hm.put hk hs' v (f' := givesAt ss hs (k + 1)) (by rw [givesAt, lastOf, ← hse, if_pos rfl, hv']) (fun t ht => by rw [givesAt, lastOf, ← hse, if_neg (fun e => ht (Eq.symm e)), givesAt])
  exact ⟨w1, hrun, hm1, hb.drew.grown hg hb.size (fun k e => by cases e; exact Nat.le_refl _)⟩

/-- THE GRAPH. -/
structure Graph (w : World) (gb mb : Nat) (a : Option Addr) (len cap : Nat) (n : Nat) (f : ByteArray → Value) : Prop where
  box : w.heap[gb]? = some (.cells #[.slice a len cap, .map (some mb), .map none] 38 (0, 0))
  map : MapSt w mb n f

theorem Graph.below {w w' : World} {gb mb : Nat} {a : Option Addr} {len cap n : Nat} {f : ByteArray → Value} (h : Graph w gb mb a len cap n f) (hb : Below w.heap.size w w') : Graph w' gb mb a len cap n f :=
  ⟨(hb.block gb (lt_of_block h.box)).trans h.box, h.map.below hb⟩

theorem Graph.cells {w : World} {gb mb : Nat} {a : Option Addr} {len cap n : Nat} {f : ByteArray → Value} (h : Graph w gb mb a len cap n f) : w.cell? ⟨gb, 0, none⟩ = some (.slice a len cap) ∧ w.cell? ⟨gb, 1, none⟩ = some (.map (some mb)) := by
  refine ⟨?_, ?_⟩
  · rw [cell_of_row w gb 0 _ _ _ h.box]; rfl
  · rw [cell_of_row w gb 1 _ _ _ h.box]; rfl

theorem zzgraph_any (a : Option Addr) (len cap mb : Nat) (w : World) :
    Calls Trym.prog 17 #[.slice a len cap, .map (some mb)] w (fun e w' => e = .returned (.pointer (some ⟨w.heap.size, 0, none⟩)) ∧ w' = w.alloc (.cells #[.slice a len cap, .map (some mb), .map none] 38)) := by
  go_enter Trym.func17, Trym.ntmps17
  go_wp2
  go_ret
  exact ⟨rfl, rfl⟩

def GraphPost (w : World) (a : Option Addr) (len cap : Nat) (n : Nat) (f : ByteArray → Value) (e : Ending) (w' : World) : Prop :=
  ∃ gb mb, e = .returned (.pointer (some ⟨gb, 0, none⟩)) ∧ Graph w' gb mb a len cap n f ∧ Below w.heap.size w w'

set_option maxHeartbeats 1600000 in
set_option maxRecDepth 100000 in
theorem graph_any (a : Option Addr) (len cap : Nat) (ss : List ByteArray) (a' : Option Addr) (len' cap' : Nat) (hs : List Hdr) (w : World) (hr : Strs w a len ss) (hr' : Row hv d0 w a' len' hs) (hlen : len ≤ 1048576) (hlen' : len' ≤ 1048576) (hsz : ∀ s ∈ ss, s.size ≤ maxLen) :
    Calls Trym.prog 9 #[.slice a len cap, .slice a' len' cap'] w (GraphPost w a len cap (min ss.length hs.length) (givesAt ss hs (min ss.length hs.length))) := by
  have hl := hr.1
  have hl' := hr'.1
  subst hl hl'
  have hmm := run_makeMap35
  have hst := Built.start w ss hs
  have HSZ : Hid (∀ s ∈ ss, s.size ≤ maxLen) := hsz
  obtain ⟨n, hn⟩ : ∃ n, n = min ss.length hs.length := ⟨_, rfl⟩
  rw [← hn]
  have hn1 : n ≤ ss.length := by omega
  have hn2 : n ≤ hs.length := by omega
  have HN3 : Hid (∀ k, ¬ k < n → k < ss.length → ¬ k < hs.length) := by intro k h1 h2; omega
  clear hn hsz
  go_enter Trym.func9, Trym.ntmps9
  go_wp2
  go_loopw [6] (fun i wr => ∃ k : Nat, k ≤ n ∧ i = .int .i64 k ∧ Built w ss hs k wr) (fun i _ => n - (intOf i).toNat)
  case atStart => exact ⟨0, Nat.zero_le _, rfl, hst⟩
  case round =>
    obtain ⟨k, hk, rfl, hbu⟩ := hrel
    clear hst
    by_cases hlt : k < n
    · obtain ⟨b, off, rfl, hb, hc⟩ := hr.at_pos (by omega)
      obtain ⟨b', off', rfl, hb', hc'⟩ := hr'.at_pos (by omega)
      have hcx : wr.cell? ⟨b, off + k, none⟩ = some (.string (ss.getD k ByteArray.empty)) := (hbu.2.cell (p := ⟨b, off + k, none⟩) hb).trans (hc.out k (by omega))
      have hcy : wr.cell? ⟨b', off' + k, none⟩ = some (hv (hs.getD k d0)) := (hbu.2.cell (p := ⟨b', off' + k, none⟩) hb').trans (hc'.out k (by omega))
      have hsz := getD_le HSZ.out k
      obtain ⟨s, hse⟩ : ∃ s, s = ss.getD k ByteArray.empty := ⟨_, rfl⟩
      obtain ⟨v, hve⟩ : ∃ v, v = hv (hs.getD k d0) := ⟨_, rfl⟩
      rw [← hse] at hcx hsz
      rw [← hve] at hcy
      obtain ⟨w1, hrun, hnext⟩ := hbu.step (by omega) hse hsz hve
      have h1 : (0 : Int) ≤ (k : Int) := by omega
      have h2 : (k : Int) < (ss.length : Int) := by omega
      have h3 : (k : Int) < (hs.length : Int) := by omega
      clear hse hve hbu hsz hr hr'
      go_wp2
      go_region
      go_wp2
      go_roundw
      case rel => exact ⟨k + 1, by omega, by go_num, hnext⟩
      case measure => simp [intOf]; omega
    · have hkn : k = n := by omega
      subst hkn
      have HB : Hid (Built w ss hs k wr) := hbu
      clear hbu
      by_cases h1 : k < ss.length
      case' pos => have h2 : ¬ (k < hs.length) := HN3.out k hlt h1
      all_goals
        go_wp2_with fail
        refine (zzgraph_any a ss.length cap w.heap.size wr).mono ?_
        rintro e w2 ⟨rfl, rfl⟩
        go_wp2
        go_ret
        exact ⟨wr.heap.size, w.heap.size, rfl, ⟨heap_alloc_new wr _, HB.out.1.below ((Below.refl _ _).alloc (Nat.le_refl _) _)⟩, HB.out.2.alloc HB.out.2.size _⟩

end Go.Proofs.Qxb6600043aMods.L
