import Derived.Test.Qxb6000945aModsKWb
import Derived.Maps.OwnSet
namespace Go.Proofs.Qxb6000945aMods.KID
open Go.RowKit Go.Maps Go.WideMaps Go.WideElems

theorem law9 : Keyed Trym.prog 9 := string_keyed Trym.underlying9
theorem zero37 (w : World) : (zeroValue 37).run Trym.prog w = .ok (.int .u64 0) w := by kernel_rfl

abbrev kl (s : ByteArray) : Lit := .string s.data.toList
theorem kl_inj {s t : ByteArray} (h : kl s = kl t) : s = t := by
  cases s; cases t
  simp at h
  rw [h]

/-- What the table's map holds: each name's number. -/
structure Agrees (D : DataW Unit) (ns : List ByteArray) : Prop where
  isMap : IsMap D
  has : ∀ s, Maps.has D (kl s) = true ↔ s ∈ ns
  num : ∀ (i : Nat) s, ns[i]? = some s → D.atKey (kl s) (.lit (.int .u64 0)) = .lit (.int .u64 i)

theorem agrees_nil : Agrees (.map []) [] := ⟨isMap_empty, fun s => by simp [Maps.has], fun i s h => by simp at h⟩

theorem Agrees.put {D : DataW Unit} {ns : List ByteArray} (h : Agrees D ns) (s : ByteArray) (hs : s ∉ ns) : Agrees (D.put (kl s) (.lit (.int .u64 ns.length))) (ns ++ [s]) := by
  refine ⟨h.isMap.put _ _, fun t => ?_, fun i t hi => ?_⟩
  · by_cases e : t = s
    · subst e
      simp [has_put_same h.isMap (k := kl t) trivial]
    · rw [has_put_other (fun e' => e (kl_inj e'))]
      rw [h.has t]
      simp [e]
  · by_cases e : t = s
    · subst e
      have hin : i = ns.length := by
        rcases Nat.lt_trichotomy i ns.length with hlt | heq | hgt
        · rw [List.getElem?_append_left hlt] at hi
          exact absurd (List.mem_of_getElem? hi) hs
        · exact heq
        · rw [List.getElem?_append_right (by omega)] at hi
          rw [List.getElem?_eq_none (by simp; omega)] at hi
          cases hi
      subst hin
      exact atKey_put_same h.isMap (show WideAt.IsKeyLit (kl t) from trivial) _ _
    · rw [atKey_put_other (fun e' => e (kl_inj e'))]
      refine h.num i t ?_
      rcases Nat.lt_or_ge i ns.length with hlt | hge
      · rwa [List.getElem?_append_left hlt] at hi
      · rw [List.getElem?_append_right hge] at hi
        have := List.mem_of_getElem? hi
        simp at this
        exact absurd this e

/-- THE TABLE, ITS MAP MADE: block kb holds the struct; the map mb reads as D; the slice owns the names. -/
structure K2 (w : World) (kb : Nat) (ns : List ByteArray) (mb : Nat) (D : DataW Unit) (a : Option Addr) (cap : Nat) : Prop where
  box : w.heap[kb]? = some (.cells #[.map (some mb), .slice a ns.length cap] 46 (0, 0))
  row : w.ownsRow kb 9 1 (.slice a ns.length cap) ns.length (ns.map Value.string)
  map : w.ownsMap Trym.prog 9 (plainElem Trym.prog 37) mb ns.length D
  agr : Agrees D ns
  le : kb ≤ mb
  nodup : ns.Nodup

/-- THE TABLE, made or not. -/
def KSt (w : World) (kb : Nat) (ns : List ByteArray) : Prop :=
  (ns = [] ∧ w.heap[kb]? = some (.cells #[.map none, .slice none 0 0] 46 (0, 0))) ∨ ∃ mb D a cap, K2 w kb ns mb D a cap

/-- Rows of numbers (type 37) stay. -/
def Nums (w w' : World) : Prop := ∀ (k : Nat) (cur : Array Value), w.heap[k]? = some (.cells cur 37 (0, 0)) → w'.heap[k]? = some (.cells cur 37 (0, 0))

theorem Nums.refl (w : World) : Nums w w := fun _ _ h => h
theorem Nums.trans {a b c : World} (h : Nums a b) (k : Nums b c) : Nums a c := fun i cur hi => k i cur (h i cur hi)
theorem Nums.below {w w' : World} (h : Below w.heap.size w w') : Nums w w' := fun k _ hk => (h.block k (lt_of_block hk)).trans hk

theorem cell_two {w : World} {kb : Nat} {x y : Value} (h : w.heap[kb]? = some (.cells #[x, y] 46 (0, 0))) : w.cell? ⟨kb, 0, none⟩ = some x ∧ w.cell? ⟨kb, 1, none⟩ = some y ∧ w.frozen? ⟨kb, 0, none⟩ = false ∧ w.frozen? ⟨kb, 1, none⟩ = false := by
  refine ⟨?_, ?_, frozen_of_row w kb 0 _ _ h, frozen_of_row w kb 1 _ _ h⟩
  · rw [cell_of_row w kb 0 _ _ _ h]; rfl
  · rw [cell_of_row w kb 1 _ _ _ h]; rfl

theorem block_below {w w' : World} {b : Nat} {o : Obj} (h : Below w.heap.size w w') (hb : w.heap[b]? = some o) : w'.heap[b]? = some o := (h.block b (lt_of_block hb)).trans hb

theorem grown_of_below {w w' : World} (h : Below w.heap.size w w') : w.grownBy w' none := ⟨h.os, h.tape, h.output, h.size, fun k hk _ => h.block k hk⟩

theorem K2.below {w w' : World} {kb : Nat} {ns : List ByteArray} {mb : Nat} {D : DataW Unit} {a : Option Addr} {cap : Nat} (h : K2 w kb ns mb D a cap) (hb : Below w.heap.size w w') : K2 w' kb ns mb D a cap :=
  ⟨block_below hb h.box, h.row.kept (grown_of_below hb) (by cases (Value.slice a ns.length cap).ownBlock <;> simp), h.map.kept (grown_of_below hb) (by simp), h.agr, h.le, h.nodup⟩

theorem KSt.below {w w' : World} {kb : Nat} {ns : List ByteArray} (h : KSt w kb ns) (hb : Below w.heap.size w w') : KSt w' kb ns := by
  rcases h with ⟨rfl, h⟩ | ⟨mb, D, a, cap, h⟩
  · exact .inl ⟨rfl, block_below hb h⟩
  · exact .inr ⟨mb, D, a, cap, h.below hb⟩

/-- The map's block, the names' block and the struct's block are three. -/
theorem K2.mb_ne {w : World} {kb : Nat} {ns : List ByteArray} {mb : Nat} {D : DataW Unit} {a : Option Addr} {cap : Nat} (h : K2 w kb ns mb D a cap) : mb ≠ kb := by
  intro e
  obtain ⟨es, clock, hb, _⟩ := h.map
  rw [e, h.box] at hb
  cases hb

/-- A row's block holds cells of its own type. -/
theorem row_ne {w : World} {base : Nat} {e : TypeId} {v : Value} {n : Nat} {xs : List Value} (h : w.ownsRow base e 1 v n xs) {b : Nat} {o : Obj} (hb : w.heap[b]? = some o) (ho : ∀ cur, o ≠ .cells cur e (0, 0)) : v.ownBlock ≠ some b := by
  rcases h.2 with ⟨rfl, _⟩ | ⟨g, cap, cur, rfl, _, hg, _⟩
  · simp [Value.ownBlock]
  · intro e'
    simp [Value.ownBlock] at e'
    subst e'
    rw [hg] at hb
    cases hb
    exact ho cur rfl

theorem K2.sv_ne_kb {w : World} {kb : Nat} {ns : List ByteArray} {mb : Nat} {D : DataW Unit} {a : Option Addr} {cap : Nat} (h : K2 w kb ns mb D a cap) : (Value.slice a ns.length cap).ownBlock ≠ some kb :=
  row_ne h.row h.box (fun cur e => by cases e)
theorem K2.sv_ne_mb {w : World} {kb : Nat} {ns : List ByteArray} {mb : Nat} {D : DataW Unit} {a : Option Addr} {cap : Nat} (h : K2 w kb ns mb D a cap) : (Value.slice a ns.length cap).ownBlock ≠ some mb := by
  obtain ⟨es, clock, hb, _⟩ := h.map
  exact row_ne h.row hb (fun cur e => by cases e)

/-- 'id, ok := k.ids[s]' where s has a number. -/
theorem K2.look_yes {w : World} {kb : Nat} {ns : List ByteArray} {mb : Nat} {D : DataW Unit} {a : Option Addr} {cap : Nat} (h : K2 w kb ns mb D a cap) {s : ByteArray} (hsz : s.size ≤ maxLen) {i : Nat} (hi : ns[i]? = some s) :
    (Instr.lookup 44 (.map (some mb)) (.string s) true).run Trym.prog w = .ok (.tuple #[.int .u64 i, .bool true]) w := by
  obtain ⟨v, ps, hrun, hv⟩ := h.map.look_ok law9 Trym.underlying44 (zero37 w) (plainElem_int Trym.underlying37 (by decide)) (keyOf_string_mk Trym.underlying9 hsz)
  rw [h.agr.num i s hi] at hv
  obtain ⟨c, rfl, hc, hwc⟩ := plainElem_int_inv Trym.underlying37 hv
  have e : (i : Int) = c := by injection hc with h1 h2; injection h1 with h1; injection h1
  rw [(h.agr.has s).2 (List.mem_of_getElem? hi)] at hrun
  rw [hrun, e]

theorem K2.look_no {w : World} {kb : Nat} {ns : List ByteArray} {mb : Nat} {D : DataW Unit} {a : Option Addr} {cap : Nat} (h : K2 w kb ns mb D a cap) {s : ByteArray} (hsz : s.size ≤ maxLen) (hs : s ∉ ns) :
    (Instr.lookup 44 (.map (some mb)) (.string s) true).run Trym.prog w = .ok (.tuple #[.int .u64 0, .bool false]) w := by
  have hh : Maps.has D (kl s) = false := by
    cases hh : Maps.has D (kl s)
    · rfl
    · exact absurd ((h.agr.has s).1 hh) hs
  obtain ⟨v, ps, hrun, hv⟩ := h.map.look_ok law9 Trym.underlying44 (zero37 w) (plainElem_int Trym.underlying37 (by decide)) (keyOf_string_mk Trym.underlying9 hsz)
  rw [atKey_of_not_has hh] at hv
  obtain ⟨c, rfl, hc, hwc⟩ := plainElem_int_inv Trym.underlying37 hv
  have e : (0 : Int) = c := by injection hc with h1 h2; injection h1 with h1; injection h1
  rw [hh] at hrun
  rw [hrun, e]

theorem look_nil (w : World) {s : ByteArray} (hsz : s.size ≤ maxLen) :
    (Instr.lookup 44 (.map none) (.string s) true).run Trym.prog w = .ok (.tuple #[.int .u64 0, .bool false]) w :=
  Maps.look_nil true law9 Trym.underlying44 (zero37 w) (keyOf_string_mk Trym.underlying9 hsz)

/-- The map is made. -/
theorem K2.made {w : World} {kb : Nat} (h : w.heap[kb]? = some (.cells #[.map none, .slice none 0 0] 46 (0, 0))) :
    K2 ((w.setCell ⟨kb, 0, none⟩ (.map (some w.heap.size))).alloc (.map #[] 0)) kb [] w.heap.size (.map []) none 0 ∧ Below kb w ((w.setCell ⟨kb, 0, none⟩ (.map (some w.heap.size))).alloc (.map #[] 0)) ∧
      Nums w ((w.setCell ⟨kb, 0, none⟩ (.map (some w.heap.size))).alloc (.map #[] 0)) := by
  have hlt := lt_of_block h
  have hb : Below kb w ((w.setCell ⟨kb, 0, none⟩ (.map (some w.heap.size))).alloc (.map #[] 0)) := ((Below.refl _ _).setCell (p := ⟨kb, 0, none⟩) (Nat.le_refl _) _).alloc (by simp; omega) _
  have hs1 : (w.setCell ⟨kb, 0, none⟩ (.map (some w.heap.size))).heap.size = w.heap.size := by simp [World.setCell]
  have hm := World.ownsMap_made (H := Unit) (w.setCell ⟨kb, 0, none⟩ (.map (some w.heap.size))) Trym.prog 9 (plainElem Trym.prog 37)
  rw [hs1] at hm
  refine ⟨⟨?_, World.ownsRow_nil _ _ _ _, hm, agrees_nil, Nat.le_of_lt hlt, List.nodup_nil⟩, hb, fun k cur hk => ?_⟩
  · rw [Go.heap_alloc_old _ _ (by simp [World.setCell]; exact hlt)]
    exact heap_setCell_same w kb 0 _ 46 _ h
  · have hk' := lt_of_block hk
    rw [Go.heap_alloc_old _ _ (by simp [World.setCell]; exact hk'), Below.heap_setCell _ _ _ _ (fun e => by rw [e, h] at hk; cases hk)]
    exact hk

/-- A new name: 'k.ids[s] = n', 'k.names = append(k.names, s)'. -/
theorem K2.add {w w3 w5 : World} {kb : Nat} {ns : List ByteArray} {mb : Nat} {D : DataW Unit} {a : Option Addr} {cap : Nat} (h : K2 w kb ns mb D a cap) {s : ByteArray} (hs : s ∉ ns) {O : Obj} {v' : Value} {u : Value}
    (hown3 : w3.ownsMap Trym.prog 9 (plainElem Trym.prog 37) mb (ns.length + 1) (D.put (kl s) (.lit (.int .u64 ns.length)))) (hg3 : w.grownBy w3 (some mb))
    (hown5 : w5.ownsRow kb 9 1 v' (ns.length + 1) (ns.map Value.string ++ [.string s])) (hg5 : (w3.alloc O).grownBy w5 (Value.slice a ns.length cap).ownBlock) (hu : u = v') :
    KSt (w5.setCell ⟨kb, 1, none⟩ u) kb (ns ++ [s]) ∧ Below kb w (w5.setCell ⟨kb, 1, none⟩ u) ∧ Nums w (w5.setCell ⟨kb, 1, none⟩ u) := by
  subst hu
  have hbox3 : w3.heap[kb]? = some (.cells #[.map (some mb), .slice a ns.length cap] 46 (0, 0)) := (hg3.block kb (lt_of_block h.box) (by simpa using h.mb_ne.symm)).trans h.box
  have hlt3 := lt_of_block hbox3
  have hbox4 : (w3.alloc O).heap[kb]? = some (.cells #[.map (some mb), .slice a ns.length cap] 46 (0, 0)) := (Go.heap_alloc_old _ _ hlt3).trans hbox3
  have hbox5 : w5.heap[kb]? = some (.cells #[.map (some mb), .slice a ns.length cap] 46 (0, 0)) := (hg5.block kb (lt_of_block hbox4) (fun e => h.sv_ne_kb e.symm)).trans hbox4
  obtain ⟨a', cap', rfl⟩ : ∃ a' cap', u = .slice a' (ns ++ [s]).length cap' := by
    rcases hown5.2 with ⟨_, h0⟩ | ⟨g, c, cur, rfl, _⟩
    · omega
    · exact ⟨some ⟨g, 0, none⟩, c, by simp⟩
  have hrow : w5.ownsRow kb 9 1 (.slice a' (ns ++ [s]).length cap') (ns ++ [s]).length ((ns ++ [s]).map Value.string) := by simpa using hown5
  have hne5 : (Value.slice a' (ns ++ [s]).length cap').ownBlock ≠ some kb := row_ne hrow hbox5 (fun cur e => by cases e)
  have hmap5 : w5.ownsMap Trym.prog 9 (plainElem Trym.prog 37) mb (ns ++ [s]).length (D.put (kl s) (.lit (.int .u64 ns.length))) := by
    have := (hown3.alloc O).kept hg5 (fun e => h.sv_ne_mb e.symm)
    simpa using this
  refine ⟨.inr ⟨mb, _, a', cap', ⟨?_, ownsRow_setCell_other hrow (a := ⟨kb, 1, none⟩) hne5 _, ?_, h.agr.put s hs, h.le, ?_⟩⟩, ?_, ?_⟩
  · exact heap_setCell_same w5 kb 1 _ 46 _ hbox5
  · obtain ⟨es, clock, hb, r⟩ := hmap5
    exact ⟨es, clock, by rw [Below.heap_setCell _ _ _ _ (by simpa using h.mb_ne)]; exact hb, r⟩
  · rw [List.nodup_append]
    refine ⟨h.nodup, by simp, fun x hx y hy => ?_⟩
    simp at hy
    subst hy
    intro e
    subst e
    exact hs hx
  · have hk := lt_of_block h.box
    have b3 : Below kb w w3 := (Below.refl kb w).grown hg3 (by omega) (fun k e => by cases e; exact h.le)
    have b5 : Below kb w w5 := (b3.alloc (by omega) O).grown hg5 (by simp; omega) (fun k e => (h.row.lt k e).1)
    exact b5.setCell (p := ⟨kb, 1, none⟩) (Nat.le_refl _) _
  · intro k cur hk
    have n1 : k ≠ mb := fun e => by
      obtain ⟨es, clock, hb, _⟩ := h.map
      rw [e, hb] at hk
      cases hk
    have n2 : k ≠ kb := fun e => by rw [e, h.box] at hk; cases hk
    have n3 : (Value.slice a ns.length cap).ownBlock ≠ some k := row_ne h.row hk (fun cur e => by cases e)
    have k3 := (hg3.block k (lt_of_block hk) (by simpa using n1)).trans hk
    have k4 : (w3.alloc O).heap[k]? = some (.cells cur 37 (0, 0)) := (Go.heap_alloc_old _ _ (lt_of_block k3)).trans k3
    have k5 := (hg5.block k (lt_of_block k4) (fun e => n3 e.symm)).trans k4
    rw [Below.heap_setCell _ _ _ _ (by simpa using n2)]
    exact k5

end Go.Proofs.Qxb6000945aMods.KID
