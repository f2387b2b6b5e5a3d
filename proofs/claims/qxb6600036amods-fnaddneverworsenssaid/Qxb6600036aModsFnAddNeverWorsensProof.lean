/-
  A PROOF OF 'Rows.FnAddNeverWorsensSaid' ('example.com/pieceworks/pieceworks/zzlaws_pkg_report_b1.FnAddNeverWorsens'). The frame is the guide's own way (its skeleton for a law over slices of integers), turned by hand to a slice of pairs of floats and a slice of floats. (An AI prover, Nov 15 2026.)
-/
import Derived.Test.Qxb6600036aModsWorse
import Derived.ProofKit
import Derived.OpenShut
import Derived.ChangeOld
import Derived.Below
namespace Go.Proofs.Qxb6600036aMods.fnAddNeverWorsens
open Go.ChangeShapes Go.WideShapes Go.ChangeAt Go.RowKit
open Go.Proofs.Qxb6600036aMods.Hold
set_option linter.unusedVariables false

theorem own : ownKnob Trym.prog.godebug = none := by kernel_rfl
theorem laidOut : laidOutB Trym.prog = true := by kernel_rfl

set_option maxRecDepth 100000 in
theorem lifted (os : Os) (started : os.Started) (H : Type) (enc : TypeId × Value → H) :
    ReturnsInHanded {} Trym.checked os 5 .any (Rows.fnAddNeverWorsensSpec.pre6 enc Trym.prog Trym.f5 Rows.fnAddNeverWorsensRow.domain false) (Rows.fnAddNeverWorsensSpec.post enc Trym.prog Trym.f5 false true false false) := by
  refine returnsInHanded_of_change (C := Trym.checked) own started (by kernel_rfl) Trym.func5
    (ChangeSpec.witness6 (enc := enc) (C := Trym.checked) false ⟨#[], #[.slice none 0 0, .slice none 0 0], []⟩ 8 (by kernel_rfl) (by kernel_rfl) (by kernel_rfl) (by kernel_rfl)) ?_
  intro W base args ds gs before hval0 hW hcnd _
  have hval : ∀ (j : Nat) t v, Trym.f5.params[j]? = some t → args[j]? = some v → Value.okWide Trym.prog W .any base t v := hval0
  have hW' := hW
  obtain ⟨p, q, hA0, hV, rfl, hfz, hnd⟩ := hW
  have hA : DataW.TrodAll enc Trym.prog W 0 (fun _ => true) true Trym.f5.params.toList args.toList ds p := hA0
  rw [Trym.params5] at hA hval
  obtain ⟨v0, vs0, d0, ds0, p0, q0, hargs, rfl, rfl, h0, r0⟩ := trodAll_cons hA
  obtain ⟨v1, vs1, d1, ds1, p1, q1, rfl, rfl, rfl, h1, r1⟩ := trodAll_cons r0
  obtain ⟨rfl, rfl, rfl⟩ := trodAll_nil r1
  obtain rfl : args = #[v0, v1] := by cases args; simp_all
  obtain ⟨rfl, rfl⟩ := trodVars_none hV
  obtain ⟨a0, len0, cap0, rfl⟩ := okWide_slice Trym.underlying28 (hval 0 28 v0 rfl rfl)
  obtain ⟨a1, len1, cap1, rfl⟩ := okWide_slice Trym.underlying24 (hval 1 24 v1 rfl rfl)
  have k0 := h0
  have k1 := h1
  have lt0 : ∀ x ∈ p0, x.block < W.heap.size := by obtain ⟨m, hm⟩ := k0; exact DataW.trod_lt m _ _ _ hm
  have lt1 : ∀ x ∈ p1, x.block < W.heap.size := by obtain ⟨m, hm⟩ := k1; exact DataW.trod_lt m _ _ _ hm
  obtain ⟨hn, hnil, z, hl, hr⟩ : len0 ≤ maxLen ∧ (a0 = none → len0 = 0 ∧ cap0 = 0) ∧ ∃ z : List Nat, len0 * 2 ≤ z.length ∧ Rd W a0 (len0 * 2) z := by
    obtain ⟨fuel, hf⟩ := h0
    exact open_pairs hf
  obtain ⟨r, hv1, hok⟩ : ∃ r : Run, Value.slice a1 len1 cap1 = .slice r.co r.l r.c ∧ r.Ok W := by
    obtain ⟨fuel, hf⟩ := h1
    exact open_run hf
  clear hA0 hval0
  have key : Calls Trym.prog 5 #[.slice a0 len0 cap0, .slice a1 len1 cap1] W fun e w' => e = .returned (.bool true) ∧ Below W.heap.size W w' := by
    rw [hv1]
    have stay : ∀ (e : Ending) (w' : World), e = .returned (.bool true) ∧ w' = W → e = .returned (.bool true) ∧ Below W.heap.size W w' := by
      rintro e w' ⟨rfl, rfl⟩
      exact ⟨rfl, Below.refl _ _⟩
    by_cases e1 : len0 ≤ 65536
    · by_cases e2 : r.l ≤ 65536
      · by_cases e3 : 16 * len0 + 8 * r.l ≤ 1048576
        · by_cases e4 : r.l ≤ len0
          · exact worse_core a0 len0 cap0 r z W e1 e2 e3 e4 hnil hl hr hok
          · exact (worse_4 a0 r.co len0 cap0 r.l r.c W hn hok.mx e1 e2 e3 e4).mono stay
        · exact (worse_3 a0 r.co len0 cap0 r.l r.c W hn hok.mx e1 e2 e3).mono stay
      · exact (worse_2 a0 r.co len0 cap0 r.l r.c W hn hok.mx e1 e2).mono stay
    · exact (worse_1 a0 r.co len0 cap0 r.l r.c W hn hok.mx e1).mono stay
  refine key.mono fun e W' ⟨he, bel⟩ => ?_
  subst he
  exact ⟨_, rfl, _, _, _, [], _, [], hW', trodAll_mk1 (shut_bool Trym.underlying4 _), (trodAll_cons_mk (Below.trod laidOut (by kernel_rfl) (of_decide_eq_true (by kernel_rfl)) k0 bel lt0) (trodAll_cons_mk (Below.trod laidOut (by kernel_rfl) (of_decide_eq_true (by kernel_rfl)) k1 bel lt1) trodAll_mk0)), rfl, bel.frame _, fun h => by cases h⟩

theorem over : Rows.fnAddNeverWorsensRow.holds Trym.pinned (OpenSpec.ofChange Rows.fnAddNeverWorsensSpec) :=
  OpenClaim.holds_of_wide 5 Trym.f5 rfl rfl rfl rfl rfl rfl rfl ⟨rfl, rfl, rfl, rfl, rfl⟩ rfl rfl rfl rfl rfl (by kernel_rfl) Trym.func5 (by kernel_rfl)
    (of_decide_eq_true (by kernel_rfl)) (by unfold Func.isWrapper; first | (rw [if_pos (by decide +kernel)]; kernel_rfl) | (rw [if_neg (by decide +kernel)]; exact ⟨rfl, rfl⟩))
    (fun os started H enc _ => lifted os started H enc)

/-- THE STATEMENT -/
theorem proved : Rows.FnAddNeverWorsensSaid := over
end Go.Proofs.Qxb6600036aMods.fnAddNeverWorsens
