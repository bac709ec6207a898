import Derived.Test.Qxb6000945aModsKSt
import Derived.Maps.OwnOps
namespace Go.Proofs.Qxb6000945aMods.KID
open Go.RowKit Go.Maps Go.WideMaps

set_option maxHeartbeats 400000 in
/-- 'id' of a name that has its number: that number; nothing turns. -/
theorem id_yes (kb : Nat) (ns : List ByteArray) (s : ByteArray) (i : Nat) (w : World) (h : KSt w kb ns) (hsz : s.size ≤ 1048576) (hi : ns[i]? = some s) :
    Calls Trym.prog 21 #[.pointer (some ⟨kb, 0, none⟩), .string s] w fun e w' => e = .returned (.int .u64 i) ∧ w' = w := by
  rcases h with ⟨rfl, _⟩ | ⟨mb, D, a, cap, h⟩
  · simp at hi
  have hl := h.look_yes (s := s) (by unfold maxLen; omega) hi
  obtain ⟨c0, c1, f0, f1⟩ := cell_two h.box
  clear hi h
  go_enter Trym.func21, Trym.ntmps21
  go_wp2
  go_ret
  exact ⟨rfl, rfl⟩

/-- What 'id' leaves where the name is new. -/
def IdPost (w : World) (kb : Nat) (ns : List ByteArray) (s : ByteArray) (e : Ending) (w' : World) : Prop :=
  e = .returned (.int .u64 ns.length) ∧ KSt w' kb (ns ++ [s]) ∧ Below kb w w' ∧ Nums w w'

theorem keyS {s : ByteArray} (hsz : s.size ≤ 1048576) : keyOf Trym.prog 9 (.string s) = some (kl s) := keyOf_string_mk Trym.underlying9 (by unfold maxLen; omega)

theorem wf_u64 {n : Nat} (h : n ≤ 65536) : (Lit.int .u64 n).wf = true := WalkArith.wf_u64 (by omega)

theorem box_grown {w w3 : World} {kb mb : Nat} {ns : List ByteArray} {D : DataW Unit} {a : Option Addr} {cap : Nat} (h : K2 w kb ns mb D a cap) (hg3 : w.grownBy w3 (some mb)) :
    w3.heap[kb]? = some (.cells #[.map (some mb), .slice a ns.length cap] 46 (0, 0)) ∧ w3.ownsRow kb 9 1 (.slice a ns.length cap) ns.length (ns.map Value.string) :=
  ⟨(hg3.block kb (lt_of_block h.box) (by simpa using h.mb_ne.symm)).trans h.box, h.row.kept hg3 (.inr h.sv_ne_mb)⟩

theorem box_grown5 {w w3 w5 : World} {kb mb : Nat} {ns : List ByteArray} {D : DataW Unit} {a : Option Addr} {cap : Nat} (h : K2 w kb ns mb D a cap) (hg3 : w.grownBy w3 (some mb)) {O : Obj} (hg5 : (w3.alloc O).grownBy w5 (Value.slice a ns.length cap).ownBlock) :
    w5.heap[kb]? = some (.cells #[.map (some mb), .slice a ns.length cap] 46 (0, 0)) := by
  have h3 := (box_grown h hg3).1
  have h4 : (w3.alloc O).heap[kb]? = some (.cells #[.map (some mb), .slice a ns.length cap] 46 (0, 0)) := (heap_alloc_old _ _ (lt_of_block h3)).trans h3
  exact (hg5.block kb (lt_of_block h4) (fun e => h.sv_ne_kb e.symm)).trans h4

theorem slice_shape {w : World} {base : Nat} {e : TypeId} {size : Nat} {v : Value} {n : Nat} {xs : List Value} (h : w.ownsRow base e size v n xs) : ∃ a cap, v = .slice a n cap := by
  rcases h.2 with ⟨rfl, rfl⟩ | ⟨g, c, cur, rfl, _⟩
  · exact ⟨none, 0, rfl⟩
  · exact ⟨_, _, rfl⟩

theorem strs_oneCell (l : List ByteArray) : ∀ u ∈ l.map Value.string, u.oneCell' = true := by
  intro u hu
  obtain ⟨_, _, rfl⟩ := List.mem_map.1 hu
  rfl

set_option maxHeartbeats 1000000 in
/-- .. of a new name, the map made already. -/
theorem id_new2 (kb : Nat) (ns : List ByteArray) (s : ByteArray) (mb : Nat) (D : DataW Unit) (a : Option Addr) (cap : Nat) (w : World) (h : K2 w kb ns mb D a cap) (hsz : s.size ≤ 1048576) (hs : s ∉ ns) (hn : ns.length ≤ 65536) :
    Calls Trym.prog 21 #[.pointer (some ⟨kb, 0, none⟩), .string s] w (IdPost w kb ns s) := by
  have hl := h.look_no (s := s) (by unfold maxLen; omega) hs
  have hnil := fun (W : World) => run_eql_map_nil (P := Trym.prog) W 44 9 37 (some mb) Trym.underlying44
  obtain ⟨i0, hi, hz0, hz1, hz2⟩ := info_parts info9
  obtain ⟨c0, c1, f0, f1⟩ := cell_two h.box
  have HH : Hid (K2 w kb ns mb D a cap) := h
  have HS : Hid (s ∉ ns) := hs
  clear h hs
  go_enter Trym.func21, Trym.ntmps21
  go_wp2_with fail
  refine (clone_any s _ hsz).mono ?_
  rintro e w2 ⟨rfl, hb2⟩
  have h2 := HH.out.below hb2
  obtain ⟨d0, d1, g0, g1⟩ := cell_two h2.box
  have H2 : Hid (K2 w2 kb ns mb D a cap) := h2
  have hown2 := h2.map
  have hrow2 := h2.row
  clear h2 c0 c1 f0 f1 hl hnil
  go_wp2_with (first
    | (at_mapUpdate; refine wpList_mapUpdate_own _ rfl _ _ _ 44 rfl 9 37 law9 Trym.underlying44 _ mb ns.length D rfl hown2 (by unfold maxLen; omega) _ _ _ rfl rfl (keyS hsz) _ [] (plainElem_int Trym.underlying37 (wf_u64 hn)) ?_))
  intro w3 hown3 hg3
  obtain ⟨hbox3, hrow3⟩ := box_grown H2.out hg3
  obtain ⟨e0, e1, g0, g1⟩ := cell_two hbox3
  have hlt3 : kb < w3.heap.size := lt_of_block hbox3
  clear d0 d1 g0 g1 hown2 hrow2 hbox3
  go_wp2_with (first
    | (at_builtin; refine wpList_append_own _ rfl _ _ 31 rfl kb 9 i0 (.string ⟨#[]⟩) 1 16 Trym.underlying31 hi hz0 hz1 hz2 rfl (by decide) _ _ _ rfl (hrow3.alloc _) ⟨w3.heap.size, 0, none⟩ 1 1 [.string s] rfl rfl (cell_one_new _ _ _) (strs_oneCell [s]) (by unfold maxLen; omega) (by omega) (by simp; omega) ?_))
  intro v' w5 hown5 hg5 _
  have hbox5 := box_grown5 H2.out hg3 hg5
  obtain ⟨e0, e1, g0, g1⟩ := cell_two hbox5
  obtain ⟨a', cap', rfl⟩ := slice_shape hown5
  have R := H2.out.add HS.out hown3 hg3 hown5 hg5 rfl
  have HR : Hid _ := R
  clear R hown3 hg3 hown5 hg5 hbox5
  go_wp2
  go_ret
  have hb3 := HR.out
  refine ⟨rfl, hb3.1, ?_, ?_⟩
  · exact (hb2.mono (Nat.le_of_lt (lt_of_block HH.out.box))).trans hb3.2.1
  · exact (Nums.below hb2).trans hb3.2.2

set_option maxHeartbeats 1000000 in
/-- .. the first name of all: the map is made. -/
theorem id_new1 (kb : Nat) (s : ByteArray) (w : World) (h : w.heap[kb]? = some (.cells #[.map none, .slice none 0 0] 46 (0, 0))) (hsz : s.size ≤ 1048576) :
    Calls Trym.prog 21 #[.pointer (some ⟨kb, 0, none⟩), .string s] w (IdPost w kb [] s) := by
  have hl := look_nil w (s := s) (by unfold maxLen; omega)
  have hnil := fun (W : World) => run_eql_map_nil (P := Trym.prog) W 44 9 37 none Trym.underlying44
  have hmm := @run_makeMap Trym.prog
  obtain ⟨i0, hi, hz0, hz1, hz2⟩ := info_parts info9
  obtain ⟨c0, c1, f0, f1⟩ := cell_two h
  have hlt := lt_of_block h
  have HM : Hid _ := K2.made h
  clear h
  go_enter Trym.func21, Trym.ntmps21
  go_wp2_with fail
  refine (clone_any s _ hsz).mono ?_
  rintro e w2 ⟨rfl, hb2⟩
  have HB2 : Hid (Below ((w.setCell ⟨kb, 0, none⟩ (.map (some w.heap.size))).alloc (.map #[] 0)).heap.size ((w.setCell ⟨kb, 0, none⟩ (.map (some w.heap.size))).alloc (.map #[] 0)) w2) := hb2
  have h2 := HM.out.1.below hb2
  clear hb2
  obtain ⟨mb, hmb⟩ : ∃ mb, mb = w.heap.size := ⟨_, rfl⟩
  rw [← hmb] at h2
  have HMB : Hid (mb = w.heap.size) := hmb
  clear hmb
  obtain ⟨d0, d1, g0, g1⟩ := cell_two h2.box
  have H2 : Hid (K2 w2 kb [] mb (.map []) none 0) := h2
  have hown2 := h2.map
  have hrow2 := h2.row
  simp only [List.length_nil, List.map_nil] at d1 hown2 hrow2
  clear h2 c0 c1 f0 f1 hl hnil
  go_wp2_with (first
    | (at_mapUpdate; refine wpList_mapUpdate_own _ rfl _ _ _ 44 rfl 9 37 law9 Trym.underlying44 _ mb 0 (.map []) rfl hown2 (by unfold maxLen; omega) _ _ _ rfl rfl (keyS hsz) _ [] (plainElem_int Trym.underlying37 (by decide)) ?_))
  intro w3 hown3 hg3
  obtain ⟨hbox3, hrow3⟩ := box_grown H2.out hg3
  obtain ⟨e0, e1, g0, g1⟩ := cell_two hbox3
  have hlt3 : kb < w3.heap.size := lt_of_block hbox3
  simp only [List.length_nil, List.map_nil] at e1 hrow3
  clear d0 d1 g0 g1 hown2 hrow2 hbox3
  go_wp2_with (first
    | (at_builtin; refine wpList_append_own _ rfl _ _ 31 rfl kb 9 i0 (.string ⟨#[]⟩) 1 16 Trym.underlying31 hi hz0 hz1 hz2 rfl (by decide) _ _ _ rfl (hrow3.alloc _) ⟨w3.heap.size, 0, none⟩ 1 1 [.string s] rfl rfl (cell_one_new _ _ _) (strs_oneCell [s]) (by unfold maxLen; omega) (by omega) (by simp; omega) ?_))
  intro v' w5 hown5 hg5 _
  have hbox5 := box_grown5 H2.out hg3 hg5
  obtain ⟨e0, e1, g0, g1⟩ := cell_two hbox5
  obtain ⟨a', cap', rfl⟩ := slice_shape hown5
  have R := H2.out.add (s := s) (by simp) hown3 hg3 hown5 hg5 rfl
  have HR : Hid _ := R
  clear R hown3 hg3 hown5 hg5 hbox5
  go_wp2
  go_ret
  have hb3 := HR.out
  refine ⟨rfl, hb3.1, ?_, ?_⟩
  · exact (HM.out.2.1.trans (HB2.out.mono (Nat.le_of_lt (lt_of_block HM.out.1.box)))).trans hb3.2.1
  · exact (HM.out.2.2.trans (Nums.below HB2.out)).trans hb3.2.2

/-- 'id' of a new name. -/
theorem id_new (kb : Nat) (ns : List ByteArray) (s : ByteArray) (w : World) (h : KSt w kb ns) (hsz : s.size ≤ 1048576) (hs : s ∉ ns) (hn : ns.length ≤ 65536) :
    Calls Trym.prog 21 #[.pointer (some ⟨kb, 0, none⟩), .string s] w (IdPost w kb ns s) := by
  rcases h with ⟨rfl, h⟩ | ⟨mb, D, a, cap, h⟩
  · exact id_new1 kb s w h hsz
  · exact id_new2 kb ns s mb D a cap w h hsz hs hn

set_option maxHeartbeats 400000 in
theorem zzid_yes (kb : Nat) (ns : List ByteArray) (s : ByteArray) (i : Nat) (w : World) (h : KSt w kb ns) (hsz : s.size ≤ 1048576) (hi : ns[i]? = some s) :
    Calls Trym.prog 16 #[.pointer (some ⟨kb, 0, none⟩), .string s] w fun e w' => e = .returned (.int .u64 i) ∧ w' = w := by
  have HI : Hid (ns[i]? = some s) := hi
  clear hi
  go_enter Trym.func16, Trym.ntmps16
  go_wp2_with fail
  refine (id_yes kb ns s i _ h hsz HI.out).mono ?_
  rintro e w' ⟨rfl, rfl⟩
  go_wp2
  go_ret
  exact ⟨rfl, rfl⟩

set_option maxHeartbeats 400000 in
theorem zzid_new (kb : Nat) (ns : List ByteArray) (s : ByteArray) (w : World) (h : KSt w kb ns) (hsz : s.size ≤ 1048576) (hs : s ∉ ns) (hn : ns.length ≤ 65536) :
    Calls Trym.prog 16 #[.pointer (some ⟨kb, 0, none⟩), .string s] w (IdPost w kb ns s) := by
  have HS : Hid (s ∉ ns) := hs
  clear hs
  go_enter Trym.func16, Trym.ntmps16
  go_wp2_with fail
  refine (id_new kb ns s _ h hsz HS.out hn).mono ?_
  rintro e w' ⟨rfl, h1, h2, h3⟩
  go_wp2
  go_ret
  exact ⟨rfl, h1, h2, h3⟩

set_option maxHeartbeats 400000 in
theorem newKeys_any (w : World) : Calls Trym.prog 15 #[] w fun e w' => e = .returned (.pointer (some ⟨w.heap.size, 0, none⟩)) ∧ w' = w.alloc (.cells #[.map none, .slice none 0 0] 46) := by
  go_enter Trym.func15, Trym.ntmps15
  go_wp2
  go_ret
  exact ⟨rfl, rfl⟩

/-- The names as the caller reads them. -/
theorem KSt.names {w : World} {kb : Nat} {ns : List ByteArray} (h : KSt w kb ns) : ∃ a cap, w.cell? ⟨kb, 1, none⟩ = some (.slice a ns.length cap) ∧ w.ownsRow kb 9 1 (.slice a ns.length cap) ns.length (ns.map Value.string) := by
  rcases h with ⟨rfl, h⟩ | ⟨mb, D, a, cap, h⟩
  · exact ⟨none, 0, (cell_two h).2.1, World.ownsRow_nil _ _ _ _⟩
  · exact ⟨a, cap, (cell_two h.box).2.1, h.row⟩

set_option maxHeartbeats 400000 in
theorem zznames_any (kb : Nat) (v : Value) (w : World) (h : w.cell? ⟨kb, 1, none⟩ = some v) :
    Calls Trym.prog 17 #[.pointer (some ⟨kb, 0, none⟩)] w fun e w' => e = .returned v ∧ w' = w := by
  go_enter Trym.func17, Trym.ntmps17
  go_wp2
  go_ret
  exact ⟨rfl, rfl⟩

end Go.Proofs.Qxb6000945aMods.KID
