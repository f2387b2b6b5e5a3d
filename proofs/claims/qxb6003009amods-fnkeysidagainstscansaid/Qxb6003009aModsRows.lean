/-
  No cell of these rows narrows 'for every input' (looked for: loops, veiled, ifaces, maps, wideKeys, modest, calm, conditions, laid).
  DERIVED. THE GIVEN ROWS OF THIS SEAT. 4 by the template 'for every input the law returns true; each argument reads behind the call as it read before'; 0 by the template 'total and deterministic' (their statements: Qxb6003009aModsTotals.lean).
  GIVEN WITH THE SEED: the statements are not yours to turn. If you find one false, say at which input.
  Laid BY PROGRAM, IN A SANDBOX (cutbox-rows.mjs): the forced cells as the released guide's own fill.sh prints them over the translation 19b3f1c83aae11da… (all of the seat's roots in one cut). By AI agents, Wed Nov 11 2026. No macro, syntax, notation, axiom, sorry.
-/
import Derived.Test.Qxb6003009aModsChecked
import GoSem.Claim
import GoSem.ClaimJoined
import GoSem.ClaimMapViews
import Derived.JoinedTies
import Derived.KernelRfl
namespace Go.Proofs.Qxb6003009aMods
/- THE CELL 'sum', in the pinned program and in every row, IS THE sha256 OF THE DUMP (.gsa) THAT Qxb6003009aModsProg.lean LOADS. Nothing in Lean hashes anything: it is a label: what it is worth is what the hold of that sum in a sandbox is worth. -/
noncomputable def Trym.pinned : Pinned := { name := "qxb6003009amods", sum := "19b3f1c83aae11da4ce23cc646e445adff212d829e394afd52c8236bb6754b0c", checked := Trym.checked }
namespace Rows
def none {H : Type} : Left H := { results := [], args := [] }

/-- 'zzlaws_internal_cluster_b1.FnPackUIDAgainstPrefixModel': WHATEVER THE INPUT: true; the input reads as it did. -/
def fnPackUIDAgainstPrefixModelSpec : ChangeSpec := { name := "fnPackUIDAgainstPrefixModel", fn := fun _ => fun
  | [d] => { results := [.lit (.bool true)], args := [d] }
  | _ => none }
def fnPackUIDAgainstPrefixModelRow : OpenClaim := { program := "qxb6003009amods", sum := "19b3f1c83aae11da4ce23cc646e445adff212d829e394afd52c8236bb6754b0c", func := "example.com/lanyard/lanyard/zzlaws_internal_cluster_b1.FnPackUIDAgainstPrefixModel", spec := "fnPackUIDAgainstPrefixModel", inPlace := ["internal/bytealg.IndexByteString"], make := .lifted ["publicsums"], apart := false }
def FnPackUIDAgainstPrefixModelSaid : Prop := fnPackUIDAgainstPrefixModelRow.holds Trym.pinned (OpenSpec.ofChange fnPackUIDAgainstPrefixModelSpec)

/-- ITS FALSE NEIGHBOUR: 'it returns false'. Refute it at one input. -/
def fnPackUIDAgainstPrefixModelWrong : ChangeSpec := { name := "fnPackUIDAgainstPrefixModel", fn := fun _ => fun
  | [d] => { results := [.lit (.bool false)], args := [d] }
  | _ => none }
def FnPackUIDAgainstPrefixModelWrongFalsely : Prop := fnPackUIDAgainstPrefixModelRow.holds Trym.pinned (OpenSpec.ofChange fnPackUIDAgainstPrefixModelWrong)

/-- 'zzlaws_internal_cluster_b1.FnPackUIDInvertsFormat': WHATEVER THE INPUT: true; the input reads as it did. -/
def fnPackUIDInvertsFormatSpec : ChangeSpec := { name := "fnPackUIDInvertsFormat", fn := fun _ => fun
  | [d] => { results := [.lit (.bool true)], args := [d] }
  | _ => none }
def fnPackUIDInvertsFormatRow : OpenClaim := { program := "qxb6003009amods", sum := "19b3f1c83aae11da4ce23cc646e445adff212d829e394afd52c8236bb6754b0c", func := "example.com/lanyard/lanyard/zzlaws_internal_cluster_b1.FnPackUIDInvertsFormat", spec := "fnPackUIDInvertsFormat", inPlace := ["internal/bytealg.IndexByteString"], make := .lifted ["publicsums"], apart := false }
def FnPackUIDInvertsFormatSaid : Prop := fnPackUIDInvertsFormatRow.holds Trym.pinned (OpenSpec.ofChange fnPackUIDInvertsFormatSpec)

/-- ITS FALSE NEIGHBOUR: 'it returns false'. Refute it at one input. -/
def fnPackUIDInvertsFormatWrong : ChangeSpec := { name := "fnPackUIDInvertsFormat", fn := fun _ => fun
  | [d] => { results := [.lit (.bool false)], args := [d] }
  | _ => none }
def FnPackUIDInvertsFormatWrongFalsely : Prop := fnPackUIDInvertsFormatRow.holds Trym.pinned (OpenSpec.ofChange fnPackUIDInvertsFormatWrong)

/-- 'zzlaws_internal_cluster_b1.FnKeysIDAgainstScan': WHATEVER THE INPUT: true; the input reads as it did. -/
def fnKeysIDAgainstScanSpec : ChangeSpec := { name := "fnKeysIDAgainstScan", fn := fun _ => fun
  | [d1, d2] => { results := [.lit (.bool true)], args := [d1, d2] }
  | _ => none }
def fnKeysIDAgainstScanRow : OpenClaim := { program := "qxb6003009amods", sum := "19b3f1c83aae11da4ce23cc646e445adff212d829e394afd52c8236bb6754b0c", func := "example.com/lanyard/lanyard/zzlaws_internal_cluster_b1.FnKeysIDAgainstScan", spec := "fnKeysIDAgainstScan", make := .lifted ["publicsums"], apart := false }
def FnKeysIDAgainstScanSaid : Prop := fnKeysIDAgainstScanRow.holds Trym.pinned (OpenSpec.ofChange fnKeysIDAgainstScanSpec)

/-- ITS FALSE NEIGHBOUR: 'it returns false'. Refute it at one input. -/
def fnKeysIDAgainstScanWrong : ChangeSpec := { name := "fnKeysIDAgainstScan", fn := fun _ => fun
  | [d1, d2] => { results := [.lit (.bool false)], args := [d1, d2] }
  | _ => none }
def FnKeysIDAgainstScanWrongFalsely : Prop := fnKeysIDAgainstScanRow.holds Trym.pinned (OpenSpec.ofChange fnKeysIDAgainstScanWrong)

/-- 'zzlaws_internal_cluster_b1.FnKeysIDNumbersByFirstAppearance': WHATEVER THE INPUT: true; the input reads as it did. -/
def fnKeysIDNumbersByFirstAppearanceSpec : ChangeSpec := { name := "fnKeysIDNumbersByFirstAppearance", fn := fun _ => fun
  | [d] => { results := [.lit (.bool true)], args := [d] }
  | _ => none }
def fnKeysIDNumbersByFirstAppearanceRow : OpenClaim := { program := "qxb6003009amods", sum := "19b3f1c83aae11da4ce23cc646e445adff212d829e394afd52c8236bb6754b0c", func := "example.com/lanyard/lanyard/zzlaws_internal_cluster_b1.FnKeysIDNumbersByFirstAppearance", spec := "fnKeysIDNumbersByFirstAppearance", make := .lifted ["publicsums"], apart := false }
def FnKeysIDNumbersByFirstAppearanceSaid : Prop := fnKeysIDNumbersByFirstAppearanceRow.holds Trym.pinned (OpenSpec.ofChange fnKeysIDNumbersByFirstAppearanceSpec)

/-- ITS FALSE NEIGHBOUR: 'it returns false'. Refute it at one input. -/
def fnKeysIDNumbersByFirstAppearanceWrong : ChangeSpec := { name := "fnKeysIDNumbersByFirstAppearance", fn := fun _ => fun
  | [d] => { results := [.lit (.bool false)], args := [d] }
  | _ => none }
def FnKeysIDNumbersByFirstAppearanceWrongFalsely : Prop := fnKeysIDNumbersByFirstAppearanceRow.holds Trym.pinned (OpenSpec.ofChange fnKeysIDNumbersByFirstAppearanceWrong)

end Rows
end Go.Proofs.Qxb6003009aMods
