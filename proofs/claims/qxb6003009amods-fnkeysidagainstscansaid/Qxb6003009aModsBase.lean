/-
  SMALL WORDS FOR THE WALKS OVER cluster: a row of strings ('Rs'), a map that numbers strings by their place ('Ids'). (An AI prover, Nov 15 2026.)
-/
import Derived.Test.Qxb6003009aModsRows
import Derived.WalkKit
import Derived.ProofKit
import Derived.Below
import Derived.RegionTactic
import Derived.ChangeAlike
import Derived.Deep.QuietTactic
import Derived.BigQuiet
import Derived.WalkLawsBesides
import Derived.WalkSpells
import Derived.Deep.OwnRows
import Derived.Maps.OwnSet
import Derived.SliceStrings
import Derived.ArgAppend
namespace Go.Proofs.Qxb6003009aMods.Keys
open Go.ChangeShapes Go.WideShapes Go.ChangeAt Go.RowKit
open Go.Maps (Keyed)
open Go.WideMaps (keyOf_string_mk)

theorem hide {p : Prop} (h : p) : Hid p := h
theorem unhide {p : Prop} (h : Hid p) : p := h

/-! ### A row of strings -/
def Rs (w : World) (g : Nat) (ss : List ByteArray) : Prop := w.heap[g]? = some (.cells (ss.map Value.string).toArray 9 (0, 0))

theorem Rs.cell {w : World} {g : Nat} {ss : List ByteArray} (h : Rs w g ss) {j : Nat} (hj : j < ss.length) : w.cell? ⟨g, j, none⟩ = some (.string (ss.getD j ByteArray.empty)) := by
  rw [cell_of_row w g j _ 9 _ h]
  simp [hj]

theorem Rs.frozen {w : World} {g : Nat} {ss : List ByteArray} (h : Rs w g ss) (j : Nat) : w.frozen? ⟨g, j, none⟩ = false := frozen_of_row w g j _ 9 h

theorem Rs.set {w : World} {g : Nat} {ss : List ByteArray} (h : Rs w g ss) (j : Nat) (v : ByteArray) : Rs (w.setCell ⟨g, j, none⟩ (.string v)) g (ss.set j v) := by
  unfold Rs
  rw [heap_setCell_same w g j _ 9 _ h]
  simp [List.map_set]

theorem Rs.lt {w : World} {g : Nat} {ss : List ByteArray} (h : Rs w g ss) : g < w.heap.size := (Array.getElem?_eq_some_iff.1 h).1

theorem Rs.same {w w' : World} {g : Nat} {ss : List ByteArray} (h : Rs w g ss) (e : w'.heap[g]? = w.heap[g]?) : Rs w' g ss := e.trans h

theorem Rs.below {B : Nat} {w w' : World} {g : Nat} {ss : List ByteArray} (h : Rs w g ss) (hb : Below B w w') (hg : g < B) : Rs w' g ss := h.same (hb.block g hg)

theorem Rs.grown {w w' : World} {g : Nat} {r : Option Nat} {ss : List ByteArray} (h : Rs w g ss) (hg : w.grownBy w' r) (hne : some g ≠ r) : Rs w' g ss := h.same (hg.block g h.lt hne)

theorem Rs.alloc {w : World} {g : Nat} {ss : List ByteArray} (h : Rs w g ss) (o : Obj) : Rs (w.alloc o) g ss := h.same (Below.heap_alloc w o g h.lt)

theorem Rs.owns {w : World} {g base : Nat} {ss : List ByteArray} (h : Rs w g ss) (hb : base ≤ g) (hm : ss.length ≤ maxLen) : w.ownsRow base 9 1 (.slice (some ⟨g, 0, none⟩) ss.length ss.length) ss.length (ss.map Value.string) :=
  ⟨by simp, .inr ⟨g, ss.length, _, rfl, hb, h, Nat.le_refl _, hm, by simp, by simp [List.take_of_length_le]⟩⟩

/-! ### The map that numbers strings by their place -/
theorem law : Keyed Trym.prog 9 := Maps.string_keyed Trym.underlying9
theorem zero34 (w : World) : (zeroValue 34).run Trym.prog w = .ok (.int .u64 0) w := by kernel_rfl

/-- Block B is a map that numbers just the strings 'names', each by its place; no string stands twice. -/
def Ids (w : World) (B : Nat) (names : List ByteArray) : Prop :=
  ∃ D : DataW Unit, w.ownsMap Trym.prog 9 (plainElem Trym.prog 34) B names.length D ∧ Maps.size D = names.length ∧
    (∀ t : ByteArray, t ∉ names → Maps.has D (.string t.data.toList) = false) ∧
    (∀ j, j < names.length → D.atKey (.string (names.getD j ByteArray.empty).data.toList) (.lit (.int .u64 0)) = .lit (.int .u64 j) ∧ Maps.has D (.string (names.getD j ByteArray.empty).data.toList) = true)

theorem Ids.lt {w : World} {B : Nat} {names : List ByteArray} (h : Ids w B names) : B < w.heap.size := by
  obtain ⟨D, h1, _⟩ := h
  exact h1.lt

theorem Ids.grown {w w' : World} {B : Nat} {r : Option Nat} {names : List ByteArray} (h : Ids w B names) (hg : w.grownBy w' r) (hne : some B ≠ r) : Ids w' B names := by
  obtain ⟨D, h1, h2⟩ := h
  exact ⟨D, h1.kept hg hne, h2⟩

theorem grown_below {w w' : World} (hb : Below w.heap.size w w') (r : Option Nat) : w.grownBy w' r := ⟨hb.os, hb.tape, hb.output, hb.size, fun k hk _ => hb.block k hk⟩

theorem Ids.below {w w' : World} {B : Nat} {names : List ByteArray} (h : Ids w B names) (hb : Below w.heap.size w w') : Ids w' B names := h.grown (grown_below hb none) (by simp)

theorem Ids.made (w : World) : Ids (w.alloc (.map #[] 0)) w.heap.size [] :=
  ⟨_, World.ownsMap_made w _ _ _, rfl, fun _ _ => rfl, fun j hj => absurd hj (by simp)⟩

theorem str_ne {s t : ByteArray} (h : s ≠ t) : (Lit.string s.data.toList) ≠ .string t.data.toList := by
  intro e
  apply h
  injection e with e1
  apply ByteArray.ext
  exact Array.toList_inj.1 e1

theorem Ids.miss {w : World} {B : Nat} {names : List ByteArray} (h : Ids w B names) {t : ByteArray} (ht : t.size ≤ maxLen) (hn : t ∉ names) :
    (Instr.lookup 33 (.map (some B)) (.string t) true).run Trym.prog w = .ok (.tuple #[.int .u64 0, .bool false]) w := by
  obtain ⟨D, h1, h2, h3, h4⟩ := h
  obtain ⟨v, ps, hrun, hv⟩ := h1.look_ok law Trym.underlying33 (zero34 w) (plainElem_int Trym.underlying34 (by decide)) (keyOf_string_mk Trym.underlying9 ht)
  rw [h3 t hn] at hrun
  rw [Maps.atKey_of_not_has (h3 t hn)] at hv
  obtain ⟨c, rfl, hc, _⟩ := plainElem_int_inv Trym.underlying34 hv
  simp only [Prod.mk.injEq, DataW.lit.injEq, Lit.int.injEq, true_and] at hc
  rw [hrun, ← hc.1]

theorem Ids.hit {w : World} {B : Nat} {names : List ByteArray} (h : Ids w B names) {j : Nat} (hj : j < names.length) (ht : (names.getD j ByteArray.empty).size ≤ maxLen) :
    (Instr.lookup 33 (.map (some B)) (.string (names.getD j ByteArray.empty)) true).run Trym.prog w = .ok (.tuple #[.int .u64 j, .bool true]) w := by
  obtain ⟨D, h1, h2, h3, h4⟩ := h
  obtain ⟨v, ps, hrun, hv⟩ := h1.look_ok law Trym.underlying33 (zero34 w) (plainElem_int Trym.underlying34 (by decide)) (keyOf_string_mk Trym.underlying9 ht)
  rw [(h4 j hj).2] at hrun
  rw [(h4 j hj).1] at hv
  obtain ⟨c, rfl, hc, _⟩ := plainElem_int_inv Trym.underlying34 hv
  simp only [Prod.mk.injEq, DataW.lit.injEq, Lit.int.injEq, true_and] at hc
  rw [hrun, ← hc.1]

theorem Ids.len {w : World} {B : Nat} {names : List ByteArray} (h : Ids w B names) (ty : TypeId) : (Builtin.len_ #[33] ty #[.map (some B)]).run Trym.prog w = .ok (.int .i64 names.length) w := by
  obtain ⟨D, h1, h2, _⟩ := h
  rw [h1.len Trym.underlying33 ty, h2]

theorem getD_append_left (l : List ByteArray) (t : ByteArray) (j : Nat) (h : j < l.length) : (l ++ [t]).getD j ByteArray.empty = l.getD j ByteArray.empty := by
  simp [List.getD_eq_getElem?_getD, List.getElem?_append, h]
theorem getD_append_last (l : List ByteArray) (t : ByteArray) : (l ++ [t]).getD l.length ByteArray.empty = t := by
  simp [List.getD_eq_getElem?_getD]
theorem getD_mem (l : List ByteArray) (j : Nat) (h : j < l.length) : l.getD j ByteArray.empty ∈ l := by
  rw [List.getD_eq_getElem?_getD, List.getElem?_eq_getElem h]
  simp

theorem Ids.store {w : World} {B : Nat} {names : List ByteArray} (h : Ids w B names) {t : ByteArray} (ht : t.size ≤ maxLen) (hn : t ∉ names) (hl : names.length < 1000000) :
    ∃ w', (Instr.mapUpdate 33 (.map (some B)) (.string t) (.int .u64 names.length)).run Trym.prog w = .ok () w' ∧ Ids w' B (names ++ [t]) ∧ w.grownBy w' (some B) ∧ w'.heap.size = w.heap.size := by
  obtain ⟨D, h1, h2, h3, h4⟩ := h
  have hwf : (Lit.int .u64 (names.length : Int)).wf = true := WalkArith.wf_u64 (by omega)
  obtain ⟨w', hrun, hown, hturn⟩ := h1.store law Trym.underlying33 (by unfold maxLen; omega) (keyOf_string_mk Trym.underlying9 ht) (plainElem_int Trym.underlying34 hwf)
  refine ⟨w', hrun, ⟨_, by simpa using hown, ?_, ?_, ?_⟩, hturn.grown, ?_⟩
  · rw [Maps.size_put (h1.tidy law), h3 t hn, h2]; simp
  · intro u hu
    have hu1 : u ∉ names := fun e => hu (by simp [e])
    have hu2 : u ≠ t := fun e => hu (by simp [e])
    rw [Maps.has_put_other (str_ne hu2)]
    exact h3 u hu1
  · intro j hj
    simp only [List.length_append, List.length_cons, List.length_nil] at hj
    rcases (by omega : j < names.length ∨ j = names.length) with hj' | rfl
    · rw [getD_append_left names t j hj']
      have hne : names.getD j ByteArray.empty ≠ t := fun e => hn (by rw [← e]; exact getD_mem names j hj')
      rw [Maps.atKey_put_other (str_ne hne), Maps.has_put_other (str_ne hne)]
      exact h4 j hj'
    · rw [getD_append_last]
      exact ⟨Maps.atKey_put_same h1.isMap (k := .string t.data.toList) trivial _ _, Maps.has_put_same h1.isMap (k := .string t.data.toList) trivial _⟩
  · obtain ⟨es, clock, es', clock', hb, rfl⟩ := hturn
    simp [ChangeMaps.setBlock]

theorem run_makeMap_hint (n : Int) (w : World) : (Instr.makeMap 33 (some (.int .i64 n))).run Trym.prog w = .ok (.map (some w.heap.size)) (w.alloc (.map #[] 0)) := by
  simp [Instr.makeMap, run_underlying Trym.underlying33, asInt, newObj]
  rfl
end Go.Proofs.Qxb6003009aMods.Keys
