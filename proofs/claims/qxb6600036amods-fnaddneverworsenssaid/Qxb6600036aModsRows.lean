/-
  No cell of these rows narrows 'for every input' (looked for: loops, veiled, ifaces, maps, wideKeys, modest, calm, conditions, laid).
  DERIVED. THE GIVEN ROWS OF THIS SEAT. 3 by the template 'for every input the law returns true; each argument reads behind the call as it read before'; 0 by the template 'total and deterministic' (their statements: Qxb6600036aModsTotals.lean).
  GIVEN WITH THE SEED: the statements are not yours to turn. If you find one false, say at which input.
  Laid BY PROGRAM, IN A SANDBOX (cutbox-rows.mjs): the forced cells as the released guide's own fill.sh prints them over the translation 527177c067550105… (all of the seat's roots in one cut). By AI agents, Wed Nov 11 2026. No macro, syntax, notation, axiom, sorry.
-/
import Derived.Test.Qxb6600036aModsChecked
import GoSem.Claim
import GoSem.ClaimJoined
import GoSem.ClaimMapViews
import Derived.JoinedTies
import Derived.KernelRfl
namespace Go.Proofs.Qxb6600036aMods
/- THE CELL 'sum', in the pinned program and in every row, IS THE sha256 OF THE DUMP (.gsa) THAT Qxb6600036aModsProg.lean LOADS. Nothing in Lean hashes anything: it is a label: what it is worth is what the hold of that sum in a sandbox is worth. -/
noncomputable def Trym.pinned : Pinned := { name := "qxb6600036amods", sum := "527177c067550105e24390c9d9484b848e91b37954daffe9dc4956e8c41d49b7", checked := Trym.checked }
namespace Rows
def none {H : Type} : Left H := { results := [], args := [] }

/-- 'zzlaws_pkg_report_b1.FnAddTwoFastest': WHATEVER THE INPUT: true; the input reads as it did. -/
def fnAddTwoFastestSpec : ChangeSpec := { name := "fnAddTwoFastest", fn := fun _ => fun
  | [d] => { results := [.lit (.bool true)], args := [d] }
  | _ => none }
def fnAddTwoFastestRow : OpenClaim := { program := "qxb6600036amods", sum := "527177c067550105e24390c9d9484b848e91b37954daffe9dc4956e8c41d49b7", func := "example.com/pieceworks/pieceworks/zzlaws_pkg_report_b1.FnAddTwoFastest", spec := "fnAddTwoFastest", make := .lifted ["publicsums"], apart := false }
def FnAddTwoFastestSaid : Prop := fnAddTwoFastestRow.holds Trym.pinned (OpenSpec.ofChange fnAddTwoFastestSpec)

/-- ITS FALSE NEIGHBOUR: 'it returns false'. Refute it at one input. -/
def fnAddTwoFastestWrong : ChangeSpec := { name := "fnAddTwoFastest", fn := fun _ => fun
  | [d] => { results := [.lit (.bool false)], args := [d] }
  | _ => none }
def FnAddTwoFastestWrongFalsely : Prop := fnAddTwoFastestRow.holds Trym.pinned (OpenSpec.ofChange fnAddTwoFastestWrong)

/-- 'zzlaws_pkg_report_b1.FnAddOrderFree': WHATEVER THE INPUT: true; the input reads as it did. -/
def fnAddOrderFreeSpec : ChangeSpec := { name := "fnAddOrderFree", fn := fun _ => fun
  | [d1, d2, d3] => { results := [.lit (.bool true)], args := [d1, d2, d3] }
  | _ => none }
def fnAddOrderFreeRow : OpenClaim := { program := "qxb6600036amods", sum := "527177c067550105e24390c9d9484b848e91b37954daffe9dc4956e8c41d49b7", func := "example.com/pieceworks/pieceworks/zzlaws_pkg_report_b1.FnAddOrderFree", spec := "fnAddOrderFree", make := .lifted ["publicsums"], apart := false }
def FnAddOrderFreeSaid : Prop := fnAddOrderFreeRow.holds Trym.pinned (OpenSpec.ofChange fnAddOrderFreeSpec)

/-- ITS FALSE NEIGHBOUR: 'it returns false'. Refute it at one input. -/
def fnAddOrderFreeWrong : ChangeSpec := { name := "fnAddOrderFree", fn := fun _ => fun
  | [d1, d2, d3] => { results := [.lit (.bool false)], args := [d1, d2, d3] }
  | _ => none }
def FnAddOrderFreeWrongFalsely : Prop := fnAddOrderFreeRow.holds Trym.pinned (OpenSpec.ofChange fnAddOrderFreeWrong)

/-- 'zzlaws_pkg_report_b1.FnAddNeverWorsens': WHATEVER THE INPUT: true; the input reads as it did. -/
def fnAddNeverWorsensSpec : ChangeSpec := { name := "fnAddNeverWorsens", fn := fun _ => fun
  | [d1, d2] => { results := [.lit (.bool true)], args := [d1, d2] }
  | _ => none }
def fnAddNeverWorsensRow : OpenClaim := { program := "qxb6600036amods", sum := "527177c067550105e24390c9d9484b848e91b37954daffe9dc4956e8c41d49b7", func := "example.com/pieceworks/pieceworks/zzlaws_pkg_report_b1.FnAddNeverWorsens", spec := "fnAddNeverWorsens", make := .lifted ["publicsums"], apart := false }
def FnAddNeverWorsensSaid : Prop := fnAddNeverWorsensRow.holds Trym.pinned (OpenSpec.ofChange fnAddNeverWorsensSpec)

/-- ITS FALSE NEIGHBOUR: 'it returns false'. Refute it at one input. -/
def fnAddNeverWorsensWrong : ChangeSpec := { name := "fnAddNeverWorsens", fn := fun _ => fun
  | [d1, d2] => { results := [.lit (.bool false)], args := [d1, d2] }
  | _ => none }
def FnAddNeverWorsensWrongFalsely : Prop := fnAddNeverWorsensRow.holds Trym.pinned (OpenSpec.ofChange fnAddNeverWorsensWrong)

end Rows
end Go.Proofs.Qxb6600036aMods
