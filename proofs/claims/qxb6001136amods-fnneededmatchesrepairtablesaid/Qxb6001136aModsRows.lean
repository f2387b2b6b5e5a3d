/-
  No cell of these rows narrows 'for every input' (looked for: loops, veiled, ifaces, maps, wideKeys, modest, calm, conditions, laid).
  DERIVED. THE GIVEN ROWS OF THIS SEAT. 3 by the template 'for every input the law returns true; each argument reads behind the call as it read before'; 0 by the template 'total and deterministic' (their statements: Qxb6001136aModsTotals.lean).
  GIVEN WITH THE SEED: the statements are not yours to turn. If you find one false, say at which input.
  Laid BY PROGRAM, IN A SANDBOX (cutbox-rows.mjs): the forced cells as the released guide's own fill.sh prints them over the translation fc76c09a6ffad6ce… (all of the seat's roots in one cut). By AI agents, Wed Nov 11 2026. No macro, syntax, notation, axiom, sorry.
-/
import Derived.Test.Qxb6001136aModsChecked
import GoSem.Claim
import GoSem.ClaimJoined
import GoSem.ClaimMapViews
import Derived.JoinedTies
import Derived.KernelRfl
namespace Go.Proofs.Qxb6001136aMods
/- THE CELL 'sum', in the pinned program and in every row, IS THE sha256 OF THE DUMP (.gsa) THAT Qxb6001136aModsProg.lean LOADS. Nothing in Lean hashes anything: it is a label: what it is worth is what the hold of that sum in a sandbox is worth. -/
noncomputable def Trym.pinned : Pinned := { name := "qxb6001136amods", sum := "fc76c09a6ffad6ceb298ceb5047934a63155e2012daca7014533af9d23bd8e24", checked := Trym.checked }
namespace Rows
def none {H : Type} : Left H := { results := [], args := [] }

/-- 'zzlaws_internal_repair_b1.FnNeededMatchesRepairTable': WHATEVER THE INPUT: true; the input reads as it did. -/
def fnNeededMatchesRepairTableSpec : ChangeSpec := { name := "fnNeededMatchesRepairTable", fn := fun _ => fun
  | [d1, d2, d3] => { results := [.lit (.bool true)], args := [d1, d2, d3] }
  | _ => none }
def fnNeededMatchesRepairTableRow : OpenClaim := { program := "qxb6001136amods", sum := "fc76c09a6ffad6ceb298ceb5047934a63155e2012daca7014533af9d23bd8e24", func := "example.com/mendloop/mendloop/zzlaws_internal_repair_b1.FnNeededMatchesRepairTable", spec := "fnNeededMatchesRepairTable", make := .lifted ["publicsums"], apart := false }
def FnNeededMatchesRepairTableSaid : Prop := fnNeededMatchesRepairTableRow.holds Trym.pinned (OpenSpec.ofChange fnNeededMatchesRepairTableSpec)

/-- ITS FALSE NEIGHBOUR: 'it returns false'. Refute it at one input. -/
def fnNeededMatchesRepairTableWrong : ChangeSpec := { name := "fnNeededMatchesRepairTable", fn := fun _ => fun
  | [d1, d2, d3] => { results := [.lit (.bool false)], args := [d1, d2, d3] }
  | _ => none }
def FnNeededMatchesRepairTableWrongFalsely : Prop := fnNeededMatchesRepairTableRow.holds Trym.pinned (OpenSpec.ofChange fnNeededMatchesRepairTableWrong)

/-- 'zzlaws_internal_repair_b1.FnNeededMonotoneInWorseNodes': WHATEVER THE INPUT: true; the input reads as it did. -/
def fnNeededMonotoneInWorseNodesSpec : ChangeSpec := { name := "fnNeededMonotoneInWorseNodes", fn := fun _ => fun
  | [d1, d2, d3, d4, d5] => { results := [.lit (.bool true)], args := [d1, d2, d3, d4, d5] }
  | _ => none }
def fnNeededMonotoneInWorseNodesRow : OpenClaim := { program := "qxb6001136amods", sum := "fc76c09a6ffad6ceb298ceb5047934a63155e2012daca7014533af9d23bd8e24", func := "example.com/mendloop/mendloop/zzlaws_internal_repair_b1.FnNeededMonotoneInWorseNodes", spec := "fnNeededMonotoneInWorseNodes", make := .lifted ["publicsums"], apart := false }
def FnNeededMonotoneInWorseNodesSaid : Prop := fnNeededMonotoneInWorseNodesRow.holds Trym.pinned (OpenSpec.ofChange fnNeededMonotoneInWorseNodesSpec)

/-- ITS FALSE NEIGHBOUR: 'it returns false'. Refute it at one input. -/
def fnNeededMonotoneInWorseNodesWrong : ChangeSpec := { name := "fnNeededMonotoneInWorseNodes", fn := fun _ => fun
  | [d1, d2, d3, d4, d5] => { results := [.lit (.bool false)], args := [d1, d2, d3, d4, d5] }
  | _ => none }
def FnNeededMonotoneInWorseNodesWrongFalsely : Prop := fnNeededMonotoneInWorseNodesRow.holds Trym.pinned (OpenSpec.ofChange fnNeededMonotoneInWorseNodesWrong)

/-- 'zzlaws_internal_repair_b1.FnNeededRefusesWhatNoStatusCallsFor': WHATEVER THE INPUT: true; the input reads as it did. -/
def fnNeededRefusesWhatNoStatusCallsForSpec : ChangeSpec := { name := "fnNeededRefusesWhatNoStatusCallsFor", fn := fun _ => fun
  | [d1, d2, d3] => { results := [.lit (.bool true)], args := [d1, d2, d3] }
  | _ => none }
def fnNeededRefusesWhatNoStatusCallsForRow : OpenClaim := { program := "qxb6001136amods", sum := "fc76c09a6ffad6ceb298ceb5047934a63155e2012daca7014533af9d23bd8e24", func := "example.com/mendloop/mendloop/zzlaws_internal_repair_b1.FnNeededRefusesWhatNoStatusCallsFor", spec := "fnNeededRefusesWhatNoStatusCallsFor", make := .lifted ["publicsums"], apart := false }
def FnNeededRefusesWhatNoStatusCallsForSaid : Prop := fnNeededRefusesWhatNoStatusCallsForRow.holds Trym.pinned (OpenSpec.ofChange fnNeededRefusesWhatNoStatusCallsForSpec)

/-- ITS FALSE NEIGHBOUR: 'it returns false'. Refute it at one input. -/
def fnNeededRefusesWhatNoStatusCallsForWrong : ChangeSpec := { name := "fnNeededRefusesWhatNoStatusCallsFor", fn := fun _ => fun
  | [d1, d2, d3] => { results := [.lit (.bool false)], args := [d1, d2, d3] }
  | _ => none }
def FnNeededRefusesWhatNoStatusCallsForWrongFalsely : Prop := fnNeededRefusesWhatNoStatusCallsForRow.holds Trym.pinned (OpenSpec.ofChange fnNeededRefusesWhatNoStatusCallsForWrong)

end Rows
end Go.Proofs.Qxb6001136aMods
