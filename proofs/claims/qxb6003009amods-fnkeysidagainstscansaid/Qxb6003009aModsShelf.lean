/-
  internal/stringslite.Clone BY THE SHELF's CONTRACT, laid at this dump in plain words (written by the kit's lay-shelf.mjs and lay-plain.mjs for this program; the names put into this seat's own namespace by hand).
-/
import Derived.Shelf.LaysM
import Derived.Shelf.Strconv.Clone
import Derived.Test.Qxb6003009aModsBase
namespace Go.Proofs.Qxb6003009aMods.Keys
open Go.Shelf
def clone_ren : Go.Shelf.Ren := ⟨fun | 316 => 23 | n => n, fun | 9 => 9 | 3 => 3 | 4 => 4 | 37 => 40 | 0 => 0 | 127 => 50 | 5 => 5 | n => n, fun | n => n⟩
theorem clone_lays : Go.Proofs.LaysM.n316 Trym.prog clone_ren := {
  mixed := by kernel_rfl
  f316 := Trym.func23.trans (congrArg some (by kernel_rfl))
  t0 := Trym.underlying0
  a0 := Trym.isAgg0
  z0 := Trym.sizeOf0
  v0 := Trym.zeroValue0
  t3 := Trym.underlying3
  a3 := Trym.isAgg3
  z3 := Trym.sizeOf3
  v3 := Trym.zeroValue3
  t4 := Trym.underlying4
  a4 := Trym.isAgg4
  z4 := Trym.sizeOf4
  v4 := Trym.zeroValue4
  t9 := Trym.underlying9
  a9 := Trym.isAgg9
  z9 := Trym.sizeOf9
  v9 := Trym.zeroValue9
  t37 := Trym.underlying40
  a37 := Trym.isAgg40
  z37 := Trym.sizeOf40
  v37 := Trym.zeroValue40
  t127 := Trym.underlying50
  a127 := Trym.isAgg50
  z127 := Trym.sizeOf50
  v127 := Trym.zeroValue50
  t5 := Trym.underlying5
  a5 := Trym.isAgg5
  z5 := Trym.sizeOf5
  v5 := Trym.zeroValue5
  i0 := by kernel_rfl
  i3 := by kernel_rfl
  i4 := by kernel_rfl
  i5 := by kernel_rfl
  i9 := by kernel_rfl
  i37 := by kernel_rfl
  i127 := by kernel_rfl }
open Go.RowKit

/-- internal/stringslite.Clone: the same bytes; of what was there nothing has turned. -/
theorem liteClone (s : ByteArray) (w : World) (hlim : s.size ≤ 281474976710656) :
    Calls Trym.prog 23 #[.string s] w fun e w' => e = .returned (.string s) ∧ Below w.heap.size w w' := Any.stringslite_Clone clone_lays s w hlim

/-- strings.Clone. -/
theorem strClone (s : ByteArray) (w : World) (hlim : s.size ≤ 281474976710656) :
    Calls Trym.prog 21 #[.string s] w fun e w' => e = .returned (.string s) ∧ Below w.heap.size w w' := by
  go_enter Trym.func21, Trym.ntmps21
  go_wp2_with fail
  refine (liteClone s _ hlim).mono ?_
  rintro e w' ⟨rfl, hb⟩
  go_wp2
  go_ret
  exact ⟨rfl, hb⟩
end Go.Proofs.Qxb6003009aMods.Keys
