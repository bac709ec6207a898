/-
  No cell of these rows narrows 'for every input' (looked for: loops, veiled, ifaces, maps, wideKeys, modest, calm, conditions, laid).
  DERIVED. THE GIVEN ROWS OF THIS SEAT. 3 by the template 'for every input the law returns true; each argument reads behind the call as it read before'; 0 by the template 'total and deterministic' (their statements: Qxb6001495aModsTotals.lean).
  GIVEN WITH THE SEED: the statements are not yours to turn. If you find one false, say at which input.
  Laid BY PROGRAM, IN A SANDBOX (cutbox-rows.mjs): the forced cells as the released guide's own fill.sh prints them over the translation 98c99a44eb05686d… (all of the seat's roots in one cut). By AI agents, Wed Nov 11 2026. No macro, syntax, notation, axiom, sorry.
-/
import Derived.Test.Qxb6001495aModsChecked
import GoSem.Claim
import GoSem.ClaimJoined
import GoSem.ClaimMapViews
import Derived.JoinedTies
import Derived.KernelRfl
namespace Go.Proofs.Qxb6001495aMods
/- THE CELL 'sum', in the pinned program and in every row, IS THE sha256 OF THE DUMP (.gsa) THAT Qxb6001495aModsProg.lean LOADS. Nothing in Lean hashes anything: it is a label: what it is worth is what the hold of that sum in a sandbox is worth. -/
noncomputable def Trym.pinned : Pinned := { name := "qxb6001495amods", sum := "98c99a44eb05686da7820d7367a8ce496218ae27dfee4d7cb58e867b8cf4d865", checked := Trym.checked }
namespace Rows
def none {H : Type} : Left H := { results := [], args := [] }

/-- 'zzlaws_pkg_storage_b1.FnRangeLogAddSplicesRefsAtIndex': WHATEVER THE INPUT: true; the input reads as it did. -/
def fnRangeLogAddSplicesRefsAtIndexSpec : ChangeSpec := { name := "fnRangeLogAddSplicesRefsAtIndex", fn := fun _ => fun
  | [d1, d2, d3, d4, d5, d6] => { results := [.lit (.bool true)], args := [d1, d2, d3, d4, d5, d6] }
  | _ => none }
def fnRangeLogAddSplicesRefsAtIndexRow : OpenClaim := { program := "qxb6001495amods", sum := "98c99a44eb05686da7820d7367a8ce496218ae27dfee4d7cb58e867b8cf4d865", func := "example.com/tideline/tideline/zzlaws_pkg_storage_b1.FnRangeLogAddSplicesRefsAtIndex", spec := "fnRangeLogAddSplicesRefsAtIndex", make := .lifted ["publicsums"], apart := false }
def FnRangeLogAddSplicesRefsAtIndexSaid : Prop := fnRangeLogAddSplicesRefsAtIndexRow.holds Trym.pinned (OpenSpec.ofChange fnRangeLogAddSplicesRefsAtIndexSpec)

/-- ITS FALSE NEIGHBOUR: 'it returns false'. Refute it at one input. -/
def fnRangeLogAddSplicesRefsAtIndexWrong : ChangeSpec := { name := "fnRangeLogAddSplicesRefsAtIndex", fn := fun _ => fun
  | [d1, d2, d3, d4, d5, d6] => { results := [.lit (.bool false)], args := [d1, d2, d3, d4, d5, d6] }
  | _ => none }
def FnRangeLogAddSplicesRefsAtIndexWrongFalsely : Prop := fnRangeLogAddSplicesRefsAtIndexRow.holds Trym.pinned (OpenSpec.ofChange fnRangeLogAddSplicesRefsAtIndexWrong)

/-- 'zzlaws_pkg_storage_b1.FnRangeLogAddIsIdempotent': WHATEVER THE INPUT: true; the input reads as it did. -/
def fnRangeLogAddIsIdempotentSpec : ChangeSpec := { name := "fnRangeLogAddIsIdempotent", fn := fun _ => fun
  | [d1, d2, d3, d4, d5, d6] => { results := [.lit (.bool true)], args := [d1, d2, d3, d4, d5, d6] }
  | _ => none }
def fnRangeLogAddIsIdempotentRow : OpenClaim := { program := "qxb6001495amods", sum := "98c99a44eb05686da7820d7367a8ce496218ae27dfee4d7cb58e867b8cf4d865", func := "example.com/tideline/tideline/zzlaws_pkg_storage_b1.FnRangeLogAddIsIdempotent", spec := "fnRangeLogAddIsIdempotent", make := .lifted ["publicsums"], apart := false }
def FnRangeLogAddIsIdempotentSaid : Prop := fnRangeLogAddIsIdempotentRow.holds Trym.pinned (OpenSpec.ofChange fnRangeLogAddIsIdempotentSpec)

/-- ITS FALSE NEIGHBOUR: 'it returns false'. Refute it at one input. -/
def fnRangeLogAddIsIdempotentWrong : ChangeSpec := { name := "fnRangeLogAddIsIdempotent", fn := fun _ => fun
  | [d1, d2, d3, d4, d5, d6] => { results := [.lit (.bool false)], args := [d1, d2, d3, d4, d5, d6] }
  | _ => none }
def FnRangeLogAddIsIdempotentWrongFalsely : Prop := fnRangeLogAddIsIdempotentRow.holds Trym.pinned (OpenSpec.ofChange fnRangeLogAddIsIdempotentWrong)

/-- 'zzlaws_pkg_storage_b1.FnRangeLogAddScriptKeepsSizeAndPrefix': WHATEVER THE INPUT: true; the input reads as it did. -/
def fnRangeLogAddScriptKeepsSizeAndPrefixSpec : ChangeSpec := { name := "fnRangeLogAddScriptKeepsSizeAndPrefix", fn := fun _ => fun
  | [d1, d2, d3] => { results := [.lit (.bool true)], args := [d1, d2, d3] }
  | _ => none }
def fnRangeLogAddScriptKeepsSizeAndPrefixRow : OpenClaim := { program := "qxb6001495amods", sum := "98c99a44eb05686da7820d7367a8ce496218ae27dfee4d7cb58e867b8cf4d865", func := "example.com/tideline/tideline/zzlaws_pkg_storage_b1.FnRangeLogAddScriptKeepsSizeAndPrefix", spec := "fnRangeLogAddScriptKeepsSizeAndPrefix", make := .lifted ["publicsums"], apart := false }
def FnRangeLogAddScriptKeepsSizeAndPrefixSaid : Prop := fnRangeLogAddScriptKeepsSizeAndPrefixRow.holds Trym.pinned (OpenSpec.ofChange fnRangeLogAddScriptKeepsSizeAndPrefixSpec)

/-- ITS FALSE NEIGHBOUR: 'it returns false'. Refute it at one input. -/
def fnRangeLogAddScriptKeepsSizeAndPrefixWrong : ChangeSpec := { name := "fnRangeLogAddScriptKeepsSizeAndPrefix", fn := fun _ => fun
  | [d1, d2, d3] => { results := [.lit (.bool false)], args := [d1, d2, d3] }
  | _ => none }
def FnRangeLogAddScriptKeepsSizeAndPrefixWrongFalsely : Prop := fnRangeLogAddScriptKeepsSizeAndPrefixRow.holds Trym.pinned (OpenSpec.ofChange fnRangeLogAddScriptKeepsSizeAndPrefixWrong)

end Rows
end Go.Proofs.Qxb6001495aMods
