/-
  SMALL WORDS FOR THE WALKS OVER report: a block that is a row of floats ('Rf'), what becomes of it; and the contracts of isNaN (16), same (17), posInf (8). (An AI prover, Nov 15 2026.)
-/
import Derived.Test.Qxb6600036aModsRows
import Derived.Test.Qxb6600036aModsPlain
import Derived.WalkKit
import Derived.ProofKit
import Derived.Below
import Derived.RegionTactic
import Derived.ChangeAlike
import Derived.Deep.QuietTactic
import Derived.BigQuiet
import Derived.WalkLawsBesides
import Derived.WalkSpells
import Derived.Deep.OwnRows
import Derived.Laws.FloatArith
namespace Go.Proofs.Qxb6600036aMods.Hold
open Go.ChangeShapes Go.WideShapes Go.ChangeAt Go.RowKit Go.Proofs.Qxb6600036aMods.Plain

theorem hide {p : Prop} (h : p) : Hid p := h
theorem unhide {p : Prop} (h : Hid p) : p := h

/-- A float64 of these bits. -/
abbrev F (n : Nat) : Value := Value.float .f64 n

/-- Block g is a row of the floats xs; nothing of it is frozen. -/
def Rf (w : World) (g : Nat) (xs : List Nat) : Prop := ∃ t, w.heap[g]? = some (.cells (xs.map (Value.float .f64)).toArray t (0, 0))

theorem Rf.cell {w : World} {g : Nat} {xs : List Nat} (h : Rf w g xs) {j : Nat} (hj : j < xs.length) : w.cell? ⟨g, j, none⟩ = some (.float .f64 (xs.getD j 0)) := by
  obtain ⟨t, ht⟩ := h
  rw [cell_of_row w g j _ t _ ht]
  simp [hj]

theorem Rf.frozen {w : World} {g : Nat} {xs : List Nat} (h : Rf w g xs) (j : Nat) : w.frozen? ⟨g, j, none⟩ = false := by
  obtain ⟨t, ht⟩ := h
  exact frozen_of_row w g j _ t ht

theorem Rf.set {w : World} {g : Nat} {xs : List Nat} (h : Rf w g xs) (j v : Nat) : Rf (w.setCell ⟨g, j, none⟩ (.float .f64 v)) g (xs.set j v) := by
  obtain ⟨t, ht⟩ := h
  refine ⟨t, ?_⟩
  rw [heap_setCell_same w g j _ t _ ht]
  simp [List.map_set]

theorem Rf.lt {w : World} {g : Nat} {xs : List Nat} (h : Rf w g xs) : g < w.heap.size := by
  obtain ⟨t, ht⟩ := h
  exact (Array.getElem?_eq_some_iff.1 ht).1

theorem Rf.same {w w' : World} {g : Nat} {xs : List Nat} (h : Rf w g xs) (e : w'.heap[g]? = w.heap[g]?) : Rf w' g xs := by
  obtain ⟨t, ht⟩ := h
  exact ⟨t, e.trans ht⟩

theorem Rf.grown {w w' : World} {g : Nat} {r : Option Nat} {xs : List Nat} (h : Rf w g xs) (hg : w.grownBy w' r) (hne : some g ≠ r) : Rf w' g xs := h.same (hg.block g h.lt hne)
theorem Rf.below {B : Nat} {w w' : World} {g : Nat} {xs : List Nat} (h : Rf w g xs) (hb : Below B w w') (hg : g < B) : Rf w' g xs := h.same (hb.block g hg)
theorem Rf.alloc {w : World} {g : Nat} {xs : List Nat} (h : Rf w g xs) (o : Obj) : Rf (w.alloc o) g xs := h.same (Below.heap_alloc w o g h.lt)
theorem Rf.other {w : World} {g : Nat} {xs : List Nat} (h : Rf w g xs) {a : Addr} (hne : g ≠ a.block) (v : Value) : Rf (w.setCell a v) g xs := h.same (heap_setCell_other w a g v hne)

theorem grown_refl (w : World) (r : Option Nat) : w.grownBy w r := ⟨rfl, rfl, rfl, Nat.le_refl _, fun _ _ _ => rfl⟩
theorem grown_below {w w' : World} (hb : Below w.heap.size w w') (r : Option Nat) : w.grownBy w' r := ⟨hb.os, hb.tape, hb.output, hb.size, fun k hk _ => hb.block k hk⟩
theorem grown_set {w w' : World} {b : Nat} (h : w.grownBy w' (some b)) (j : Nat) (v : Value) : w.grownBy (w'.setCell ⟨b, j, none⟩ v) (some b) :=
  ⟨h.os, h.tape, h.output, by simpa [World.setCell] using h.size, fun k hk hne => by
    rw [heap_setCell_other w' ⟨b, j, none⟩ k v (by simpa using hne)]; exact h.block k hk hne⟩
theorem grown_drewN {w w' : World} {r : Option Nat} (h : w.grownBy w' r) (n : Nat) : w.grownBy (w'.drewN n) r := ⟨h.os, h.tape, h.output, h.size, h.block⟩

/-- A store of a float: the walk's own set has no law for it. -/
theorem run_store_float {P : Program} {w : World} {a : Addr} {m : Mode} (k : FloatKind) (n : Nat) : (store a (.float k n) m).run P w = stored P w a (.float k n) m := run_store P w a _ m rfl

/-! ### isNaN, posInf, same -/
/-- x is no NaN. -/
def Num (x : Nat) : Prop := Ieee.double.order x x = some .eq

theorem isNaN_any (x : Nat) (w : World) : Calls Trym.prog 16 #[.float .f64 x] w fun e w' => e = .returned (.bool (Ieee.double.order x x != some .eq)) ∧ w' = w := by
  go_enter Trym.func16, Trym.ntmps16
  go_wp2
  go_ret
  exact ⟨rfl, rfl⟩

def INF : Nat := 9218868437227405312
theorem INF_num : Num INF := by unfold Num; decide

theorem posInf_any (w : World) : Calls Trym.prog 8 #[] w fun e w' => e = .returned (.float .f64 INF) ∧ w' = w := by
  have hq := fun wx => run_float_arith (P := Trym.prog) wx .quo 26 .f64 4607182418800017408 0 INF (by decide)
  go_enter Trym.func8, Trym.ntmps8
  go_wp2
  go_ret
  exact ⟨rfl, rfl⟩

/-- The call returned some bool. -/
def SomeBool (e : Ending) : Prop := ∃ b, e = .returned (.bool b)

theorem fmt64 : FloatKind.f64.format = Ieee.double := rfl

theorem same_lt (x y : Nat) (o : Ordering) (w : World) (ho : Ieee.double.order x y = some o) (hne : o ≠ .eq) : Calls Trym.prog 17 #[.float .f64 x, .float .f64 y] w fun e w' => e = .returned (.bool false) ∧ w' = w := by
  have h1 : (FloatKind.f64.format.order x y != some .eq) = true := by rw [fmt64, ho]; simpa using hne
  go_enter Trym.func17, Trym.ntmps17
  go_wp2
  go_ret
  exact ⟨rfl, rfl⟩

theorem same_eq (x y : Nat) (o : Ordering) (w : World) (h0 : Ieee.double.order x y = some .eq) (ho : Ieee.double.order x 0 = some o) (hne : o ≠ .eq) : Calls Trym.prog 17 #[.float .f64 x, .float .f64 y] w fun e w' => e = .returned (.bool true) ∧ w' = w := by
  have h1 : (FloatKind.f64.format.order x y != some .eq) = false := by rw [fmt64, h0]; rfl
  have h2 : (FloatKind.f64.format.order x 0 != some .eq) = true := by rw [fmt64, ho]; simpa using hne
  go_enter Trym.func17, Trym.ntmps17
  go_wp2
  go_ret
  exact ⟨rfl, rfl⟩

theorem same_zero (x y rx ry : Nat) (w : World) (h0 : Ieee.double.order x y = some .eq) (ho : Ieee.double.order x 0 = some .eq) (hx : Ieee.double.div 4607182418800017408 x = some rx) (hy : Ieee.double.div 4607182418800017408 y = some ry) :
    Calls Trym.prog 17 #[.float .f64 x, .float .f64 y] w fun e w' => e = .returned (.bool (Ieee.double.order rx ry == some .eq)) ∧ w' = w := by
  have h1 : (FloatKind.f64.format.order x y != some .eq) = false := by rw [fmt64, h0]; rfl
  have h2 : (FloatKind.f64.format.order x 0 != some .eq) = false := by rw [fmt64, ho]; rfl
  have q1 := fun wx => run_float_arith (P := Trym.prog) wx .quo 26 .f64 4607182418800017408 x rx hx
  have q2 := fun wx => run_float_arith (P := Trym.prog) wx .quo 26 .f64 4607182418800017408 y ry hy
  go_enter Trym.func17, Trym.ntmps17
  go_wp2
  go_ret
  exact ⟨rfl, rfl⟩

theorem num_zero : Num 0 := by unfold Num; decide

/-- same returns some bool; of one and the same float it returns true. -/
theorem same_any (x y : Nat) (w : World) (hx : Num x) (hy : Num y) : Calls Trym.prog 17 #[.float .f64 x, .float .f64 y] w fun e w' => SomeBool e ∧ (x = y → e = .returned (.bool true)) ∧ w' = w := by
  obtain ⟨o, ho⟩ := order_total hx hy
  obtain ⟨o2, ho2⟩ := order_total hx num_zero
  by_cases h1 : o = .eq
  · subst h1
    by_cases h2 : o2 = .eq
    · subst h2
      have zx := zero_of_eq ho2 isZero_zero
      have zy := zero_of_eq (order_swap ho) zx
      obtain ⟨rx, hrx, hnx⟩ := one_div zx
      obtain ⟨ry, hry, _⟩ := one_div zy
      refine (same_zero x y rx ry w ho ho2 hrx hry).mono ?_
      rintro e w' ⟨rfl, rfl⟩
      refine ⟨⟨_, rfl⟩, ?_, rfl⟩
      intro e
      subst e
      rw [hrx] at hry
      injection hry with hry
      subst hry
      rw [hnx]
      rfl
    · refine (same_eq x y o2 w ho ho2 h2).mono ?_
      rintro e w' ⟨rfl, rfl⟩
      exact ⟨⟨_, rfl⟩, fun _ => rfl, rfl⟩
  · refine (same_lt x y o w ho h1).mono ?_
    rintro e w' ⟨rfl, rfl⟩
    refine ⟨⟨_, rfl⟩, ?_, rfl⟩
    intro e
    subst e
    unfold Num at hx
    rw [hx] at ho
    injection ho with ho
    exact absurd ho.symm h1
end Go.Proofs.Qxb6600036aMods.Hold
