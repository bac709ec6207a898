/-
  No cell of these rows narrows 'for every input' (looked for: loops, veiled, ifaces, maps, wideKeys, modest, calm, conditions, laid).
  DERIVED. THE GIVEN ROWS OF THIS SEAT. 2 by the template 'for every input the law returns true; each argument reads behind the call as it read before'; 0 by the template 'total and deterministic' (their statements: Qxb6001078aModsTotals.lean).
  GIVEN WITH THE SEED: the statements are not yours to turn. If you find one false, say at which input.
  Laid BY PROGRAM, IN A SANDBOX (cutbox-rows.mjs): the forced cells as the released guide's own fill.sh prints them over the translation c94ba8381e12858f… (all of the seat's roots in one cut). By AI agents, Wed Nov 11 2026. No macro, syntax, notation, axiom, sorry.
-/
import Derived.Test.Qxb6001078aModsChecked
import GoSem.Claim
import GoSem.ClaimJoined
import GoSem.ClaimMapViews
import Derived.JoinedTies
import Derived.KernelRfl
namespace Go.Proofs.Qxb6001078aMods
/- THE CELL 'sum', in the pinned program and in every row, IS THE sha256 OF THE DUMP (.gsa) THAT Qxb6001078aModsProg.lean LOADS. Nothing in Lean hashes anything: it is a label: what it is worth is what the hold of that sum in a sandbox is worth. -/
noncomputable def Trym.pinned : Pinned := { name := "qxb6001078amods", sum := "c94ba8381e12858f406a1e24d794a15a8fbd2c78630a9acc4be9a35b7830b956", checked := Trym.checked }
namespace Rows
def none {H : Type} : Left H := { results := [], args := [] }

/-- 'zzlaws_pkg_quorumkeep_b1.FnStateOfWholeAtOneSizeOnly': WHATEVER THE INPUT: true; the input reads as it did. -/
def fnStateOfWholeAtOneSizeOnlySpec : ChangeSpec := { name := "fnStateOfWholeAtOneSizeOnly", fn := fun _ => fun
  | [d1, d2, d3, d4, d5] => { results := [.lit (.bool true)], args := [d1, d2, d3, d4, d5] }
  | _ => none }
def fnStateOfWholeAtOneSizeOnlyRow : OpenClaim := { program := "qxb6001078amods", sum := "c94ba8381e12858f406a1e24d794a15a8fbd2c78630a9acc4be9a35b7830b956", func := "example.com/quorumkeep/quorumkeep/zzlaws_pkg_quorumkeep_b1.FnStateOfWholeAtOneSizeOnly", spec := "fnStateOfWholeAtOneSizeOnly", make := .lifted ["publicsums"], apart := false }
def FnStateOfWholeAtOneSizeOnlySaid : Prop := fnStateOfWholeAtOneSizeOnlyRow.holds Trym.pinned (OpenSpec.ofChange fnStateOfWholeAtOneSizeOnlySpec)

/-- ITS FALSE NEIGHBOUR: 'it returns false'. Refute it at one input. -/
def fnStateOfWholeAtOneSizeOnlyWrong : ChangeSpec := { name := "fnStateOfWholeAtOneSizeOnly", fn := fun _ => fun
  | [d1, d2, d3, d4, d5] => { results := [.lit (.bool false)], args := [d1, d2, d3, d4, d5] }
  | _ => none }
def FnStateOfWholeAtOneSizeOnlyWrongFalsely : Prop := fnStateOfWholeAtOneSizeOnlyRow.holds Trym.pinned (OpenSpec.ofChange fnStateOfWholeAtOneSizeOnlyWrong)

/-- 'zzlaws_pkg_quorumkeep_b1.FnFieldsNextScript': WHATEVER THE INPUT: true; the input reads as it did. -/
def fnFieldsNextScriptSpec : ChangeSpec := { name := "fnFieldsNextScript", fn := fun _ => fun
  | [d1, d2] => { results := [.lit (.bool true)], args := [d1, d2] }
  | _ => none }
def fnFieldsNextScriptRow : OpenClaim := { program := "qxb6001078amods", sum := "c94ba8381e12858f406a1e24d794a15a8fbd2c78630a9acc4be9a35b7830b956", func := "example.com/quorumkeep/quorumkeep/zzlaws_pkg_quorumkeep_b1.FnFieldsNextScript", spec := "fnFieldsNextScript", make := .lifted ["publicsums"], apart := false }
def FnFieldsNextScriptSaid : Prop := fnFieldsNextScriptRow.holds Trym.pinned (OpenSpec.ofChange fnFieldsNextScriptSpec)

/-- ITS FALSE NEIGHBOUR: 'it returns false'. Refute it at one input. -/
def fnFieldsNextScriptWrong : ChangeSpec := { name := "fnFieldsNextScript", fn := fun _ => fun
  | [d1, d2] => { results := [.lit (.bool false)], args := [d1, d2] }
  | _ => none }
def FnFieldsNextScriptWrongFalsely : Prop := fnFieldsNextScriptRow.holds Trym.pinned (OpenSpec.ofChange fnFieldsNextScriptWrong)

end Rows
end Go.Proofs.Qxb6001078aMods
