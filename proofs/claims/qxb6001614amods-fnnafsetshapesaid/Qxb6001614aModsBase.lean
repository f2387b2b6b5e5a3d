/-
  SMALL WORDS FOR THE WALKS OVER vrf: a block that holds a row of integers ('Rw'), and what becomes of it. (An AI prover, Nov 15 2026.)
-/
import Derived.Test.Qxb6001614aModsRows
import Derived.Test.Qxb6001614aModsPlain
import Derived.WalkKit
import Derived.ProofKit
import Derived.Below
import Derived.RegionTactic
import Derived.ChangeAlike
import Derived.Deep.QuietTactic
import Derived.BigQuiet
import Derived.WalkLawsBesides
import Derived.WalkSpells
import Derived.Deep.MidRow
import Derived.Deep.WholeRow
import Derived.Laws.BitsAllLaws
namespace Go.Proofs.Qxb6001614aMods.Naf
open Go.RowKit Go.Proofs.Qxb6001614aMods.Plain

/-- Block g is a row of the integers zs, of kind k; nothing of it is frozen. -/
def Rw (w : World) (g : Nat) (k : IntKind) (zs : List Int) : Prop := ∃ t, w.heap[g]? = some (.cells (zs.map (Value.int k)).toArray t (0, 0))

theorem Rw.cell {w : World} {g : Nat} {k : IntKind} {zs : List Int} (h : Rw w g k zs) {j : Nat} (hj : j < zs.length) : w.cell? ⟨g, j, none⟩ = some (.int k (zs.getD j 0)) := by
  obtain ⟨t, ht⟩ := h
  rw [cell_of_row w g j _ t _ ht]
  simp [hj]

theorem Rw.frozen {w : World} {g : Nat} {k : IntKind} {zs : List Int} (h : Rw w g k zs) (j : Nat) : w.frozen? ⟨g, j, none⟩ = false := by
  obtain ⟨t, ht⟩ := h
  exact frozen_of_row w g j _ t ht

theorem Rw.set {w : World} {g : Nat} {k : IntKind} {zs : List Int} (h : Rw w g k zs) (j : Nat) (v : Int) : Rw (w.setCell ⟨g, j, none⟩ (.int k v)) g k (zs.set j v) := by
  obtain ⟨t, ht⟩ := h
  refine ⟨t, ?_⟩
  rw [heap_setCell_same w g j _ t _ ht]
  simp [List.map_set]

theorem Rw.other {w : World} {g : Nat} {k : IntKind} {zs : List Int} (h : Rw w g k zs) {a : Addr} (hne : g ≠ a.block) (v : Value) : Rw (w.setCell a v) g k zs := by
  obtain ⟨t, ht⟩ := h
  exact ⟨t, by rw [heap_setCell_other w a g v hne]; exact ht⟩

theorem Rw.lt {w : World} {g : Nat} {k : IntKind} {zs : List Int} (h : Rw w g k zs) : g < w.heap.size := by
  obtain ⟨t, ht⟩ := h
  exact (Array.getElem?_eq_some_iff.1 ht).1

theorem Rw.drew {w : World} {g : Nat} {k : IntKind} {zs : List Int} (h : Rw w g k zs) : Rw w.drew g k zs := h

theorem Rw.alloc {w : World} {g : Nat} {k : IntKind} {zs : List Int} (h : Rw w g k zs) (o : Obj) : Rw (w.alloc o) g k zs := by
  have hl := h.lt
  obtain ⟨t, ht⟩ := h
  exact ⟨t, by rw [Below.heap_alloc w o g hl]; exact ht⟩

theorem Rw.below {B : Nat} {w w' : World} {g : Nat} {k : IntKind} {zs : List Int} (h : Rw w g k zs) (hb : Below B w w') (hg : g < B) : Rw w' g k zs := by
  obtain ⟨t, ht⟩ := h
  exact ⟨t, by rw [hb.block g hg]; exact ht⟩

theorem Rw.there {w : World} {g : Nat} {k : IntKind} {zs : List Int} (h : Rw w g k zs) : w.there g 0 zs.length := fun j hj => by
  simp only [Nat.zero_add]
  exact ⟨by rw [h.cell hj]; rfl, h.frozen j⟩

theorem Rw.new (w : World) (k : IntKind) (zs : List Int) (t : TypeId) (cs : Array Value) (hcs : cs = (zs.map (Value.int k)).toArray) : Rw (w.alloc (.cells cs t)) w.heap.size k zs :=
  ⟨t, by rw [heap_alloc_new, hcs]⟩

/-- A whole row is stored over a row. -/
theorem Rw.setRow {w : World} {g : Nat} {k : IntKind} {zs : List Int} (h : Rw w g k zs) (cs : Array Value) (ys : List Int) (hcs : cs = (ys.map (Value.int k)).toArray) : Rw (w.setRow g cs) g k ys := by
  obtain ⟨t, ht⟩ := h
  exact ⟨t, by rw [setRow_heap w g _ cs t _ ht, hcs]⟩

theorem Rw.setRow_other {w : World} {g g' : Nat} {k : IntKind} {zs : List Int} (h : Rw w g k zs) (cs : Array Value) (hne : g ≠ g') : Rw (w.setRow g' cs) g k zs := by
  obtain ⟨t, ht⟩ := h
  exact ⟨t, by rw [Go.setRow_other w g' g cs hne]; exact ht⟩

theorem below_setRow' {B : Nat} {a w : World} (h : Below B a w) {g : Nat} (hg : B ≤ g) (cs : Array Value) : Below B a (w.setRow g cs) :=
  h.trans ⟨rfl, rfl, rfl, by simp, fun k hk => Go.setRow_other w g k cs (by omega)⟩

/-- A whole array of integers stored into a block that is a row of as many. -/
theorem wpList_store_Rw {P : Program} {ops : Array Oper} {rest : List Oper} {o : Oper} {a : Act} {w : World} {Q : Exit → Act → World → Prop} (hgd : o.guard = none) (ty : TypeId) (x y : Operand) (ho : o.op = .store ty x y)
    (g : Nat) (Z : Array Value) (hx : a.eval x = .pointer (some ⟨g, 0, none⟩)) (hy : a.eval y = .agg Z) {k : IntKind} {zs : List Int} (hR : Rw w g k zs) (ys : List Int)
    (hZ : Hid (Z = (ys.map (Value.int k)).toArray)) (hl : Hid (ys.length = zs.length)) (hi : Hid ((P.info? ty).map (·.size) = some ys.length))
    (h : wpList P ops Q rest (a.put o.dst undef) (w.setRow g Z)) : wpList P ops Q (o :: rest) a w := by
  obtain ⟨t, ht⟩ := hR
  have hZ' := hZ.out
  have hl' := hl.out
  have hi' := hi.out
  refine wpList_store_row hgd ty x y ho g Z hx hy t _ ht (by rw [hi', hZ']; simp) (by rw [hZ']; simp [hl']) ?_ h
  rw [hZ']
  refine Array.all_eq_true_iff_forall_mem.2 (fun v hv => ?_)
  simp at hv
  obtain ⟨n, _, rfl⟩ := hv
  rfl

/-- A whole array of integers read out of a block that is a row of as many. -/
theorem wpList_load_Rw {P : Program} {ops : Array Oper} {rest : List Oper} {o : Oper} {a : Act} {w : World} {Q : Exit → Act → World → Prop} (hgd : o.guard = none) (ty : TypeId) (x : Operand) (ho : o.op = .load ty x)
    (g : Nat) (hx : a.eval x = .pointer (some ⟨g, 0, none⟩)) {k : IntKind} {zs : List Int} (hR : Rw w g k zs) {m : Nat} {e : TypeId} (hu : Hid (P.underlying ty = some (.array m e)))
    (hi : Hid ((P.info? ty).map (·.size) = some zs.length)) (Z : Array Value) (hZ : Hid (Z = (zs.map (Value.int k)).toArray))
    (h : wpList P ops Q rest (a.put o.dst (.agg Z)) w) : wpList P ops Q (o :: rest) a w := by
  obtain ⟨t, ht⟩ := hR
  have hZ' := hZ.out
  subst hZ'
  exact wpList_load_row hgd ty x ho g hx t _ _ _ ht hu.out rfl (by rw [hi.out]; simp) h

end Go.Proofs.Qxb6001614aMods.Naf
