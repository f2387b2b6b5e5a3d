/-
  HOW THE ARGUMENTS ARE OPENED: a slice of floats, a slice of slices of floats, a slice of pairs of floats, out of the form's own reading. (An AI prover, Nov 15 2026.)
-/
import Derived.Test.Qxb6600036aModsTwo
import Derived.OpenShut
import Derived.Deep.Slices
namespace Go.Proofs.Qxb6600036aMods.Hold
open Go.ChangeShapes Go.WideShapes Go.ChangeAt Go.RowKit

theorem cells26 : Trym.prog.cellsOf 26 = 1 := by kernel_rfl
theorem cells24 : Trym.prog.cellsOf 24 = 1 := by kernel_rfl
theorem cells29 : Trym.prog.cellsOf 29 = 2 := by kernel_rfl

section
variable {H : Type} {enc : TypeId × Value → H} {w : World} {base : Nat} {held : Bool}

theorem trod_float {spare : Nat → Bool} {n : Nat} {v : Value} {x : DataW H × List MemPlace} (h : DataW.trod enc Trym.prog w base spare held n 26 [v] = some x) : ∃ b, v = .float .f64 b := by
  cases n with
  | zero => simp [DataW.trod] at h
  | succ n =>
    simp only [DataW.trod, Trym.underlying26] at h
    cases v <;> simp at h
    rename_i k b
    cases k <;> simp at h
    exact ⟨b, rfl⟩

theorem spot_none {x : Addr} {v : Value} (h : w.cell? (x.add 0) = some v) : ∃ b off, x = ⟨b, off, none⟩ := by
  obtain ⟨b, off, spot⟩ := x
  have hspot : spot = none := by simpa [Addr.add] using World.cell?_spot h
  subst hspot
  exact ⟨b, off, rfl⟩

/-- A slice of floats, as the walks ask it. -/
theorem open_run {fuel : Nat} {v : Value} {x : DataW H × List MemPlace} (h : DataW.trod enc Trym.prog w base (fun _ => true) held fuel 24 [v] = some x) :
    ∃ r : Run, v = .slice r.co r.l r.c ∧ r.Ok w := by
  rcases Deep.open_slice1 Trym.underlying24 cells26 h with ⟨hcs, _⟩ | ⟨a, len, cap, m, n, V, D, Pl, hcs, _, hl, hm, hmm, _, hx⟩
  · simp at hcs
    exact ⟨⟨none, 0, 0, []⟩, hcs, .inl rfl, by simp, by simp [maxLen], fun _ => ⟨rfl, rfl⟩⟩
  · simp at hcs hmm
    subst hmm
    have hV : ∀ i, i < m → ∃ b, V i = .float .f64 b := fun i hi => trod_float (hx i hi).2
    obtain ⟨f, hf⟩ := Deep.choose_lt (α := Nat) (p := fun i b => V i = .float .f64 b) hV
    refine ⟨⟨some a, len, m, (List.range m).map f⟩, hcs, ?_, by simpa using hl, by simp only; omega, fun h => by cases h⟩
    by_cases h0 : len = 0
    · exact .inl h0
    · obtain ⟨b, off, rfl⟩ := spot_none (hx 0 (by omega)).1
      refine .inr ⟨b, off, rfl, fun i hi => ?_⟩
      have hi' : i < m := by simp only at hi; omega
      rw [← add_plain, (hx i hi').1, hf i hi']
      simp [List.getD_eq_getElem?_getD, hi']

/-- A slice of slices of floats. -/
theorem open_runs {fuel : Nat} {ao : Option Addr} {len cap : Nat} {x : DataW H × List MemPlace} (h : DataW.trod enc Trym.prog w base (fun _ => true) held fuel 22 [.slice ao len cap] = some x) :
    len ≤ maxLen ∧ (ao = none → len = 0 ∧ cap = 0) ∧ ∃ rs : Nat → Run, RunsIn w ao len rs := by
  rcases Deep.open_slice1 Trym.underlying22 cells24 h with ⟨hcs, _⟩ | ⟨a, len', cap', m, n, V, D, Pl, hcs, _, hl, hm, hmm, _, hx⟩
  · simp at hcs
    obtain ⟨rfl, rfl, rfl⟩ := hcs
    exact ⟨by simp [maxLen], fun _ => ⟨rfl, rfl⟩, fun _ => ⟨none, 0, 0, []⟩, .inl rfl⟩
  · simp at hcs hmm
    obtain ⟨rfl, rfl, rfl⟩ := hcs
    subst hmm
    have hV : ∀ i, i < m → ∃ r : Run, V i = .slice r.co r.l r.c ∧ r.Ok w := fun i hi => open_run (hx i hi).2
    refine ⟨by omega, ?_, ?_⟩
    · intro h
      cases h
    classical
    refine ⟨fun i => if hi : i < m then Classical.choose (hV i hi) else ⟨none, 0, 0, []⟩, ?_⟩
    by_cases h0 : len = 0
    · exact .inl h0
    · obtain ⟨b, off, rfl⟩ := spot_none (hx 0 (by omega)).1
      refine .inr ⟨b, off, rfl, fun i hi => ?_⟩
      have hi' : i < m := by omega
      simp only [dif_pos hi']
      obtain ⟨h1, h2⟩ := Classical.choose_spec (hV i hi')
      refine ⟨?_, h2⟩
      rw [← add_plain, (hx i hi').1]
      exact congrArg some h1
end
end Go.Proofs.Qxb6600036aMods.Hold
