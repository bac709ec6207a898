/-
  No cell of these rows narrows 'for every input' (looked for: loops, veiled, ifaces, maps, wideKeys, modest, calm, conditions, laid).
  DERIVED. THE GIVEN ROWS OF THIS SEAT. 5 by the template 'for every input the law returns true; each argument reads behind the call as it read before'; 0 by the template 'total and deterministic' (their statements: Qxb6000945aModsTotals.lean).
  GIVEN WITH THE SEED: the statements are not yours to turn. If you find one false, say at which input.
  Laid BY PROGRAM, IN A SANDBOX (cutbox-rows.mjs): the forced cells as the released guide's own fill.sh prints them over the translation 3dbc23214987576d… (all of the seat's roots in one cut). By AI agents, Wed Nov 11 2026. No macro, syntax, notation, axiom, sorry.
-/
import Derived.Test.Qxb6000945aModsChecked
import GoSem.Claim
import GoSem.ClaimJoined
import GoSem.ClaimMapViews
import Derived.JoinedTies
import Derived.KernelRfl
namespace Go.Proofs.Qxb6000945aMods
/- THE CELL 'sum', in the pinned program and in every row, IS THE sha256 OF THE DUMP (.gsa) THAT Qxb6000945aModsProg.lean LOADS. Nothing in Lean hashes anything: it is a label: what it is worth is what the hold of that sum in a sandbox is worth. -/
noncomputable def Trym.pinned : Pinned := { name := "qxb6000945amods", sum := "3dbc23214987576d1d341a730a77300ad370eaa2cd3bd485a86ca3e067dec0f4", checked := Trym.checked }
namespace Rows
def none {H : Type} : Left H := { results := [], args := [] }

/-- 'zzlaws_internal_cluster_b1.FnPackUIDRoundTrip': WHATEVER THE INPUT: true; the input reads as it did. -/
def fnPackUIDRoundTripSpec : ChangeSpec := { name := "fnPackUIDRoundTrip", fn := fun _ => fun
  | [d] => { results := [.lit (.bool true)], args := [d] }
  | _ => none }
def fnPackUIDRoundTripRow : OpenClaim := { program := "qxb6000945amods", sum := "3dbc23214987576d1d341a730a77300ad370eaa2cd3bd485a86ca3e067dec0f4", func := "example.com/lanyard/lanyard/zzlaws_internal_cluster_b1.FnPackUIDRoundTrip", spec := "fnPackUIDRoundTrip", inPlace := ["internal/bytealg.IndexByteString"], make := .lifted ["publicsums"], apart := false }
def FnPackUIDRoundTripSaid : Prop := fnPackUIDRoundTripRow.holds Trym.pinned (OpenSpec.ofChange fnPackUIDRoundTripSpec)

/-- ITS FALSE NEIGHBOUR: 'it returns false'. Refute it at one input. -/
def fnPackUIDRoundTripWrong : ChangeSpec := { name := "fnPackUIDRoundTrip", fn := fun _ => fun
  | [d] => { results := [.lit (.bool false)], args := [d] }
  | _ => none }
def FnPackUIDRoundTripWrongFalsely : Prop := fnPackUIDRoundTripRow.holds Trym.pinned (OpenSpec.ofChange fnPackUIDRoundTripWrong)

/-- 'zzlaws_internal_cluster_b1.FnPackUIDAcceptedIsCanonical': WHATEVER THE INPUT: true; the input reads as it did. -/
def fnPackUIDAcceptedIsCanonicalSpec : ChangeSpec := { name := "fnPackUIDAcceptedIsCanonical", fn := fun _ => fun
  | [d] => { results := [.lit (.bool true)], args := [d] }
  | _ => none }
def fnPackUIDAcceptedIsCanonicalRow : OpenClaim := { program := "qxb6000945amods", sum := "3dbc23214987576d1d341a730a77300ad370eaa2cd3bd485a86ca3e067dec0f4", func := "example.com/lanyard/lanyard/zzlaws_internal_cluster_b1.FnPackUIDAcceptedIsCanonical", spec := "fnPackUIDAcceptedIsCanonical", inPlace := ["internal/bytealg.IndexByteString"], make := .lifted ["publicsums"], apart := false }
def FnPackUIDAcceptedIsCanonicalSaid : Prop := fnPackUIDAcceptedIsCanonicalRow.holds Trym.pinned (OpenSpec.ofChange fnPackUIDAcceptedIsCanonicalSpec)

/-- ITS FALSE NEIGHBOUR: 'it returns false'. Refute it at one input. -/
def fnPackUIDAcceptedIsCanonicalWrong : ChangeSpec := { name := "fnPackUIDAcceptedIsCanonical", fn := fun _ => fun
  | [d] => { results := [.lit (.bool false)], args := [d] }
  | _ => none }
def FnPackUIDAcceptedIsCanonicalWrongFalsely : Prop := fnPackUIDAcceptedIsCanonicalRow.holds Trym.pinned (OpenSpec.ofChange fnPackUIDAcceptedIsCanonicalWrong)

/-- 'zzlaws_internal_cluster_b1.FnPackUIDRefusesUpperHex': WHATEVER THE INPUT: true; the input reads as it did. -/
def fnPackUIDRefusesUpperHexSpec : ChangeSpec := { name := "fnPackUIDRefusesUpperHex", fn := fun _ => fun
  | [d1, d2, d3] => { results := [.lit (.bool true)], args := [d1, d2, d3] }
  | _ => none }
def fnPackUIDRefusesUpperHexRow : OpenClaim := { program := "qxb6000945amods", sum := "3dbc23214987576d1d341a730a77300ad370eaa2cd3bd485a86ca3e067dec0f4", func := "example.com/lanyard/lanyard/zzlaws_internal_cluster_b1.FnPackUIDRefusesUpperHex", spec := "fnPackUIDRefusesUpperHex", inPlace := ["internal/bytealg.IndexByteString"], make := .lifted ["publicsums"], apart := false }
def FnPackUIDRefusesUpperHexSaid : Prop := fnPackUIDRefusesUpperHexRow.holds Trym.pinned (OpenSpec.ofChange fnPackUIDRefusesUpperHexSpec)

/-- ITS FALSE NEIGHBOUR: 'it returns false'. Refute it at one input. -/
def fnPackUIDRefusesUpperHexWrong : ChangeSpec := { name := "fnPackUIDRefusesUpperHex", fn := fun _ => fun
  | [d1, d2, d3] => { results := [.lit (.bool false)], args := [d1, d2, d3] }
  | _ => none }
def FnPackUIDRefusesUpperHexWrongFalsely : Prop := fnPackUIDRefusesUpperHexRow.holds Trym.pinned (OpenSpec.ofChange fnPackUIDRefusesUpperHexWrong)

/-- 'zzlaws_internal_cluster_b1.FnKeysIDNumbersByFirstAppearance': WHATEVER THE INPUT: true; the input reads as it did. -/
def fnKeysIDNumbersByFirstAppearanceSpec : ChangeSpec := { name := "fnKeysIDNumbersByFirstAppearance", fn := fun _ => fun
  | [d] => { results := [.lit (.bool true)], args := [d] }
  | _ => none }
def fnKeysIDNumbersByFirstAppearanceRow : OpenClaim := { program := "qxb6000945amods", sum := "3dbc23214987576d1d341a730a77300ad370eaa2cd3bd485a86ca3e067dec0f4", func := "example.com/lanyard/lanyard/zzlaws_internal_cluster_b1.FnKeysIDNumbersByFirstAppearance", spec := "fnKeysIDNumbersByFirstAppearance", make := .lifted ["publicsums"], apart := false }
def FnKeysIDNumbersByFirstAppearanceSaid : Prop := fnKeysIDNumbersByFirstAppearanceRow.holds Trym.pinned (OpenSpec.ofChange fnKeysIDNumbersByFirstAppearanceSpec)

/-- ITS FALSE NEIGHBOUR: 'it returns false'. Refute it at one input. -/
def fnKeysIDNumbersByFirstAppearanceWrong : ChangeSpec := { name := "fnKeysIDNumbersByFirstAppearance", fn := fun _ => fun
  | [d] => { results := [.lit (.bool false)], args := [d] }
  | _ => none }
def FnKeysIDNumbersByFirstAppearanceWrongFalsely : Prop := fnKeysIDNumbersByFirstAppearanceRow.holds Trym.pinned (OpenSpec.ofChange fnKeysIDNumbersByFirstAppearanceWrong)

/-- 'zzlaws_internal_cluster_b1.FnKeysIDStableOnRepeat': WHATEVER THE INPUT: true; the input reads as it did. -/
def fnKeysIDStableOnRepeatSpec : ChangeSpec := { name := "fnKeysIDStableOnRepeat", fn := fun _ => fun
  | [d] => { results := [.lit (.bool true)], args := [d] }
  | _ => none }
def fnKeysIDStableOnRepeatRow : OpenClaim := { program := "qxb6000945amods", sum := "3dbc23214987576d1d341a730a77300ad370eaa2cd3bd485a86ca3e067dec0f4", func := "example.com/lanyard/lanyard/zzlaws_internal_cluster_b1.FnKeysIDStableOnRepeat", spec := "fnKeysIDStableOnRepeat", make := .lifted ["publicsums"], apart := false }
def FnKeysIDStableOnRepeatSaid : Prop := fnKeysIDStableOnRepeatRow.holds Trym.pinned (OpenSpec.ofChange fnKeysIDStableOnRepeatSpec)

/-- ITS FALSE NEIGHBOUR: 'it returns false'. Refute it at one input. -/
def fnKeysIDStableOnRepeatWrong : ChangeSpec := { name := "fnKeysIDStableOnRepeat", fn := fun _ => fun
  | [d] => { results := [.lit (.bool false)], args := [d] }
  | _ => none }
def FnKeysIDStableOnRepeatWrongFalsely : Prop := fnKeysIDStableOnRepeatRow.holds Trym.pinned (OpenSpec.ofChange fnKeysIDStableOnRepeatWrong)

end Rows
end Go.Proofs.Qxb6000945aMods
