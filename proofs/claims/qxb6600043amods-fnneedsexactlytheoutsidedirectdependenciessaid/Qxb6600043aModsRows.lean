/-
  No cell of these rows narrows 'for every input' (looked for: loops, veiled, ifaces, maps, wideKeys, modest, calm, conditions, laid).
  DERIVED. THE GIVEN ROWS OF THIS SEAT. 2 by the template 'for every input the law returns true; each argument reads behind the call as it read before'; 0 by the template 'total and deterministic' (their statements: Qxb6600043aModsTotals.lean).
  GIVEN WITH THE SEED: the statements are not yours to turn. If you find one false, say at which input.
  Laid BY PROGRAM, IN A SANDBOX (cutbox-rows.mjs): the forced cells as the released guide's own fill.sh prints them over the translation 8fe0350ef049c922… (all of the seat's roots in one cut). By AI agents, Wed Nov 11 2026. No macro, syntax, notation, axiom, sorry.
-/
import Derived.Test.Qxb6600043aModsChecked
import GoSem.Claim
import GoSem.ClaimJoined
import GoSem.ClaimMapViews
import Derived.JoinedTies
import Derived.KernelRfl
namespace Go.Proofs.Qxb6600043aMods
/- THE CELL 'sum', in the pinned program and in every row, IS THE sha256 OF THE DUMP (.gsa) THAT Qxb6600043aModsProg.lean LOADS. Nothing in Lean hashes anything: it is a label: what it is worth is what the hold of that sum in a sandbox is worth. -/
noncomputable def Trym.pinned : Pinned := { name := "qxb6600043amods", sum := "8fe0350ef049c92223ca6004307a4753a0871f1fc8a9ebaef24a1b394563ebe8", checked := Trym.checked }
namespace Rows
def none {H : Type} : Left H := { results := [], args := [] }

/-- 'zzlaws_internal_city_b1.FnNeedsExactlyTheOutsideDirectDependencies': WHATEVER THE INPUT: true; the input reads as it did. -/
def fnNeedsExactlyTheOutsideDirectDependenciesSpec : ChangeSpec := { name := "fnNeedsExactlyTheOutsideDirectDependencies", fn := fun _ => fun
  | [d1, d2, d3] => { results := [.lit (.bool true)], args := [d1, d2, d3] }
  | _ => none }
def fnNeedsExactlyTheOutsideDirectDependenciesRow : OpenClaim := { program := "qxb6600043amods", sum := "8fe0350ef049c92223ca6004307a4753a0871f1fc8a9ebaef24a1b394563ebe8", func := "example.com/reeve/reeve/zzlaws_internal_city_b1.FnNeedsExactlyTheOutsideDirectDependencies", spec := "fnNeedsExactlyTheOutsideDirectDependencies", make := .lifted ["publicsums"], apart := false }
def FnNeedsExactlyTheOutsideDirectDependenciesSaid : Prop := fnNeedsExactlyTheOutsideDirectDependenciesRow.holds Trym.pinned (OpenSpec.ofChange fnNeedsExactlyTheOutsideDirectDependenciesSpec)

/-- ITS FALSE NEIGHBOUR: 'it returns false'. Refute it at one input. -/
def fnNeedsExactlyTheOutsideDirectDependenciesWrong : ChangeSpec := { name := "fnNeedsExactlyTheOutsideDirectDependencies", fn := fun _ => fun
  | [d1, d2, d3] => { results := [.lit (.bool false)], args := [d1, d2, d3] }
  | _ => none }
def FnNeedsExactlyTheOutsideDirectDependenciesWrongFalsely : Prop := fnNeedsExactlyTheOutsideDirectDependenciesRow.holds Trym.pinned (OpenSpec.ofChange fnNeedsExactlyTheOutsideDirectDependenciesWrong)

/-- 'zzlaws_internal_city_b1.FnNeedsOfAUnion': WHATEVER THE INPUT: true; the input reads as it did. -/
def fnNeedsOfAUnionSpec : ChangeSpec := { name := "fnNeedsOfAUnion", fn := fun _ => fun
  | [d1, d2, d3, d4] => { results := [.lit (.bool true)], args := [d1, d2, d3, d4] }
  | _ => none }
def fnNeedsOfAUnionRow : OpenClaim := { program := "qxb6600043amods", sum := "8fe0350ef049c92223ca6004307a4753a0871f1fc8a9ebaef24a1b394563ebe8", func := "example.com/reeve/reeve/zzlaws_internal_city_b1.FnNeedsOfAUnion", spec := "fnNeedsOfAUnion", make := .lifted ["publicsums"], apart := false }
def FnNeedsOfAUnionSaid : Prop := fnNeedsOfAUnionRow.holds Trym.pinned (OpenSpec.ofChange fnNeedsOfAUnionSpec)

/-- ITS FALSE NEIGHBOUR: 'it returns false'. Refute it at one input. -/
def fnNeedsOfAUnionWrong : ChangeSpec := { name := "fnNeedsOfAUnion", fn := fun _ => fun
  | [d1, d2, d3, d4] => { results := [.lit (.bool false)], args := [d1, d2, d3, d4] }
  | _ => none }
def FnNeedsOfAUnionWrongFalsely : Prop := fnNeedsOfAUnionRow.holds Trym.pinned (OpenSpec.ofChange fnNeedsOfAUnionWrong)

end Rows
end Go.Proofs.Qxb6600043aMods
