import Derived.Test.Qxb6000945aModsProg
import Derived.Shelf.Pu.Clone
namespace Go.Proofs.Qxb6000945aMods.KID
open Go.Shelf Go.RowKit
def ren : Ren := ⟨fun n => match n with | 25 => 26 | n => n, fun n => match n with | 37 => 29 | 47 => 51 | n => n, fun n => n⟩

theorem body26 : Trym.prog.funcs[26]? = some (BodyPu.n25 ren) := by kernel_rfl

theorem laysClone : LaysPu.n25 Trym.prog ren where
  mixed := by kernel_rfl
  f25 := body26
  t0 := by kernel_rfl
  a0 := fun w => by kernel_rfl
  z0 := fun w => by kernel_rfl
  v0 := fun w => by kernel_rfl
  i0 := by kernel_rfl
  t3 := by kernel_rfl
  a3 := fun w => by kernel_rfl
  z3 := fun w => by kernel_rfl
  v3 := fun w => by kernel_rfl
  i3 := by kernel_rfl
  t4 := by kernel_rfl
  a4 := fun w => by kernel_rfl
  z4 := fun w => by kernel_rfl
  v4 := fun w => by kernel_rfl
  i4 := by kernel_rfl
  t5 := by kernel_rfl
  a5 := fun w => by kernel_rfl
  z5 := fun w => by kernel_rfl
  v5 := fun w => by kernel_rfl
  i5 := by kernel_rfl
  t9 := by kernel_rfl
  a9 := fun w => by kernel_rfl
  z9 := fun w => by kernel_rfl
  v9 := fun w => by kernel_rfl
  i9 := by kernel_rfl
  t37 := by kernel_rfl
  a37 := fun w => by kernel_rfl
  z37 := fun w => by kernel_rfl
  v37 := fun w => by kernel_rfl
  i37 := by kernel_rfl
  t47 := by kernel_rfl
  a47 := fun w => by kernel_rfl
  z47 := fun w => by kernel_rfl
  v47 := fun w => by kernel_rfl
  i47 := by kernel_rfl

/-- internal/stringslite.Clone, by the shelf's contract. -/
theorem slClone_any (s : ByteArray) (w : World) (hlim : s.size ≤ 1048576) :
    Calls Trym.prog 26 #[.string s] w fun e w' => e = .returned (.string s) ∧ Below w.heap.size w w' :=
  AnyPu.stringslite_Clone laysClone s w (by omega)
end Go.Proofs.Qxb6000945aMods.KID
