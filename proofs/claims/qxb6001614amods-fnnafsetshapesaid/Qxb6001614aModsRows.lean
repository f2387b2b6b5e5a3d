/-
  No cell of these rows narrows 'for every input' (looked for: loops, veiled, ifaces, maps, wideKeys, modest, calm, conditions, laid).
  DERIVED. THE GIVEN ROWS OF THIS SEAT. 2 by the template 'for every input the law returns true; each argument reads behind the call as it read before'; 0 by the template 'total and deterministic' (their statements: Qxb6001614aModsTotals.lean).
  GIVEN WITH THE SEED: the statements are not yours to turn. If you find one false, say at which input.
  Laid BY PROGRAM, IN A SANDBOX (cutbox-rows.mjs): the forced cells as the released guide's own fill.sh prints them over the translation 81f5cb711215e469… (all of the seat's roots in one cut). By AI agents, Wed Nov 11 2026. No macro, syntax, notation, axiom, sorry.
-/
import Derived.Test.Qxb6001614aModsChecked
import GoSem.Claim
import GoSem.ClaimJoined
import GoSem.ClaimMapViews
import Derived.JoinedTies
import Derived.KernelRfl
namespace Go.Proofs.Qxb6001614aMods
/- THE CELL 'sum', in the pinned program and in every row, IS THE sha256 OF THE DUMP (.gsa) THAT Qxb6001614aModsProg.lean LOADS. Nothing in Lean hashes anything: it is a label: what it is worth is what the hold of that sum in a sandbox is worth. -/
noncomputable def Trym.pinned : Pinned := { name := "qxb6001614amods", sum := "81f5cb711215e469a0431c0e2acbf8c17aeb9ac21ff54699d85dc28b88646e20", checked := Trym.checked }
namespace Rows
def none {H : Type} : Left H := { results := [], args := [] }

/-- 'zzlaws_vrf_b1.FnNafSetValue': WHATEVER THE INPUT: true; the input reads as it did. -/
def fnNafSetValueSpec : ChangeSpec := { name := "fnNafSetValue", fn := fun _ => fun
  | [d1, d2] => { results := [.lit (.bool true)], args := [d1, d2] }
  | _ => none }
def fnNafSetValueRow : OpenClaim := { program := "qxb6001614amods", sum := "81f5cb711215e469a0431c0e2acbf8c17aeb9ac21ff54699d85dc28b88646e20", func := "example.com/lotcast/lotcast/zzlaws_vrf_b1.FnNafSetValue", spec := "fnNafSetValue", make := .lifted ["publicsums"], apart := false }
def FnNafSetValueSaid : Prop := fnNafSetValueRow.holds Trym.pinned (OpenSpec.ofChange fnNafSetValueSpec)

/-- ITS FALSE NEIGHBOUR: 'it returns false'. Refute it at one input. -/
def fnNafSetValueWrong : ChangeSpec := { name := "fnNafSetValue", fn := fun _ => fun
  | [d1, d2] => { results := [.lit (.bool false)], args := [d1, d2] }
  | _ => none }
def FnNafSetValueWrongFalsely : Prop := fnNafSetValueRow.holds Trym.pinned (OpenSpec.ofChange fnNafSetValueWrong)

/-- 'zzlaws_vrf_b1.FnNafSetShape': WHATEVER THE INPUT: true; the input reads as it did. -/
def fnNafSetShapeSpec : ChangeSpec := { name := "fnNafSetShape", fn := fun _ => fun
  | [d1, d2] => { results := [.lit (.bool true)], args := [d1, d2] }
  | _ => none }
def fnNafSetShapeRow : OpenClaim := { program := "qxb6001614amods", sum := "81f5cb711215e469a0431c0e2acbf8c17aeb9ac21ff54699d85dc28b88646e20", func := "example.com/lotcast/lotcast/zzlaws_vrf_b1.FnNafSetShape", spec := "fnNafSetShape", make := .lifted ["publicsums"], apart := false }
def FnNafSetShapeSaid : Prop := fnNafSetShapeRow.holds Trym.pinned (OpenSpec.ofChange fnNafSetShapeSpec)

/-- ITS FALSE NEIGHBOUR: 'it returns false'. Refute it at one input. -/
def fnNafSetShapeWrong : ChangeSpec := { name := "fnNafSetShape", fn := fun _ => fun
  | [d1, d2] => { results := [.lit (.bool false)], args := [d1, d2] }
  | _ => none }
def FnNafSetShapeWrongFalsely : Prop := fnNafSetShapeRow.holds Trym.pinned (OpenSpec.ofChange fnNafSetShapeWrong)

end Rows
end Go.Proofs.Qxb6001614aMods
