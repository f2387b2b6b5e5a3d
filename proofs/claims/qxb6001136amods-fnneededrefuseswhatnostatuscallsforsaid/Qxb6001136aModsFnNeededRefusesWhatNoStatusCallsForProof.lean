/-
  A PROOF OF 'Rows.FnNeededRefusesWhatNoStatusCallsForSaid' ('example.com/mendloop/mendloop/zzlaws_internal_repair_b1.FnNeededRefusesWhatNoStatusCallsFor'), WRITTEN BY PROGRAM (proof-skeleton.mjs) off the guide's own print for that function. Not trusted: Lean checks it.
  The walk is filled in by hand: every test on the road is decided ahead of it (the statuses 0, 1, 2, and neither). All else is the guide's template at this function's number and types.
-/
import Derived.Test.Qxb6001136aModsRows
import Derived.WalkKit
import Derived.ProofKit
import Derived.OpenShut
import Derived.ShutString
namespace Go.Proofs.Qxb6001136aMods.fnNeededRefusesWhatNoStatusCallsFor
open Go.ChangeShapes Go.WideShapes Go.ChangeAt Go.RowKit
open Go.ChangeMaps (open_string shut_string)
set_option linter.unusedVariables false      -- a walk need not use every 'w<i>' (that an integer argument fits its kind)

theorem own : ownKnob Trym.prog.godebug = none := by kernel_rfl

/-- No secondary: the four kinds of primary, each decided ahead of the walk. -/
theorem walk_none (a0 a2 : Int) (w : World) :
    Calls Trym.prog 5 #[.int .i64 a0, .bool false, .int .i64 a2] w fun e w' => e = .returned (.bool true) ∧ Grown w w' := by
  rcases (by omega : a0 = 0 ∨ a0 = 1 ∨ a0 = 2 ∨ (a0 ≠ 0 ∧ a0 ≠ 1 ∧ a0 ≠ 2)) with rfl | rfl | rfl | ⟨p0, p1, p2⟩
  all_goals first
    | (have q0 : (a0 == 0) = false := by simp [p0]
       have q1 : (a0 == 1) = false := by simp [p1]
       have q2 : (a0 == 2) = false := by simp [p2])
    | skip
  all_goals
    go_enter Trym.func5, Trym.ntmps5
    go_wp2
    go_ret
    exact ⟨rfl, by repeat (first | exact Grown.refl _ | apply Grown.drew | apply Grown.alloc)⟩

set_option maxHeartbeats 1000000 in
theorem walk_at0 (a2 : Int) (w : World) :
    Calls Trym.prog 5 #[.int .i64 0, .bool true, .int .i64 a2] w fun e w' => e = .returned (.bool true) ∧ Grown w w' := by
  rcases (by omega : a2 = 0 ∨ a2 = 1 ∨ a2 = 2 ∨ (a2 ≠ 0 ∧ a2 ≠ 1 ∧ a2 ≠ 2)) with rfl | rfl | rfl | ⟨s0, s1, s2⟩
  all_goals first
    | (have r0 : (a2 == 0) = false := by simp [s0]
       have r1 : (a2 == 1) = false := by simp [s1]
       have r2 : (a2 == 2) = false := by simp [s2])
    | skip
  all_goals
    go_enter Trym.func5, Trym.ntmps5
    go_wp2
    go_ret
    exact ⟨rfl, by repeat (first | exact Grown.refl _ | apply Grown.drew | apply Grown.alloc)⟩

set_option maxHeartbeats 1000000 in
theorem walk_at1 (a2 : Int) (w : World) :
    Calls Trym.prog 5 #[.int .i64 1, .bool true, .int .i64 a2] w fun e w' => e = .returned (.bool true) ∧ Grown w w' := by
  rcases (by omega : a2 = 0 ∨ a2 = 1 ∨ a2 = 2 ∨ (a2 ≠ 0 ∧ a2 ≠ 1 ∧ a2 ≠ 2)) with rfl | rfl | rfl | ⟨s0, s1, s2⟩
  all_goals first
    | (have r0 : (a2 == 0) = false := by simp [s0]
       have r1 : (a2 == 1) = false := by simp [s1]
       have r2 : (a2 == 2) = false := by simp [s2])
    | skip
  all_goals
    go_enter Trym.func5, Trym.ntmps5
    go_wp2
    go_ret
    exact ⟨rfl, by repeat (first | exact Grown.refl _ | apply Grown.drew | apply Grown.alloc)⟩

set_option maxHeartbeats 1000000 in
theorem walk_at2 (a2 : Int) (w : World) :
    Calls Trym.prog 5 #[.int .i64 2, .bool true, .int .i64 a2] w fun e w' => e = .returned (.bool true) ∧ Grown w w' := by
  rcases (by omega : a2 = 0 ∨ a2 = 1 ∨ a2 = 2 ∨ (a2 ≠ 0 ∧ a2 ≠ 1 ∧ a2 ≠ 2)) with rfl | rfl | rfl | ⟨s0, s1, s2⟩
  all_goals first
    | (have r0 : (a2 == 0) = false := by simp [s0]
       have r1 : (a2 == 1) = false := by simp [s1]
       have r2 : (a2 == 2) = false := by simp [s2])
    | skip
  all_goals
    go_enter Trym.func5, Trym.ntmps5
    go_wp2
    go_ret
    exact ⟨rfl, by repeat (first | exact Grown.refl _ | apply Grown.drew | apply Grown.alloc)⟩

set_option maxHeartbeats 1000000 in
theorem walk_atElse (a0 : Int) (p0 : a0 ≠ 0) (p1 : a0 ≠ 1) (p2 : a0 ≠ 2) (a2 : Int) (w : World) :
    Calls Trym.prog 5 #[.int .i64 a0, .bool true, .int .i64 a2] w fun e w' => e = .returned (.bool true) ∧ Grown w w' := by
  have q0 : (a0 == 0) = false := by simp [p0]
  have q1 : (a0 == 1) = false := by simp [p1]
  have q2 : (a0 == 2) = false := by simp [p2]
  rcases (by omega : a2 = 0 ∨ a2 = 1 ∨ a2 = 2 ∨ (a2 ≠ 0 ∧ a2 ≠ 1 ∧ a2 ≠ 2)) with rfl | rfl | rfl | ⟨s0, s1, s2⟩
  all_goals first
    | (have r0 : (a2 == 0) = false := by simp [s0]
       have r1 : (a2 == 1) = false := by simp [s1]
       have r2 : (a2 == 2) = false := by simp [s2])
    | skip
  all_goals
    go_enter Trym.func5, Trym.ntmps5
    go_wp2
    go_ret
    exact ⟨rfl, by repeat (first | exact Grown.refl _ | apply Grown.drew | apply Grown.alloc)⟩

/-! ### STEP 1: THE WALK: the Go text returns true. 'Grown w w'': the world has at most new blocks (Derived/RowKit3.lean). Part the cases AHEAD of 'go_enter' where a test parts the walk; take each callee by a contract of your own. -/
theorem walk (a0 : Int) (a1 : Bool) (a2 : Int) (w0 : (Lit.int .i64 a0).wf = true) (w2 : (Lit.int .i64 a2).wf = true) (w : World) :
    Calls Trym.prog 5 #[.int .i64 a0, .bool a1, .int .i64 a2] w fun e w' => e = .returned (.bool true) ∧ Grown w w' := by
  cases a1
  · exact walk_none a0 a2 w
  · by_cases p0 : a0 = 0
    · subst p0; exact walk_at0 a2 w
    by_cases p1 : a0 = 1
    · subst p1; exact walk_at1 a2 w
    by_cases p2 : a0 = 2
    · subst p2; exact walk_at2 a2 w
    exact walk_atElse a0 p0 p1 p2 a2 w

/-! ### THE ROW's STEP: WRITTEN OUT: LEAVE IT -/
set_option maxRecDepth 100000 in
theorem lifted (os : Os) (started : os.Started) (H : Type) (enc : TypeId × Value → H) :
    ReturnsInHanded {} Trym.checked os 5 .any (Rows.fnNeededRefusesWhatNoStatusCallsForSpec.pre6 enc Trym.prog Trym.f5 Rows.fnNeededRefusesWhatNoStatusCallsForRow.domain false) (Rows.fnNeededRefusesWhatNoStatusCallsForSpec.post enc Trym.prog Trym.f5 false true false false) := by
  refine returnsInHanded_of_change (C := Trym.checked) own started (by kernel_rfl) Trym.func5
    (ChangeSpec.witness6 (enc := enc) (C := Trym.checked) false ⟨#[], #[.int .i64 0, .bool false, .int .i64 0], []⟩ 8 (by kernel_rfl) (by kernel_rfl) (by kernel_rfl) (by kernel_rfl)) ?_
  intro W base args ds gs before hval0 hW hcnd _
  have hval : ∀ (j : Nat) t v, Trym.f5.params[j]? = some t → args[j]? = some v → Value.okWide Trym.prog W .any base t v := hval0
  have hW' := hW
  obtain ⟨p, q, hA0, hV, rfl, hfz, hnd⟩ := hW
  have hA : DataW.TrodAll enc Trym.prog W 0 (fun _ => true) true Trym.f5.params.toList args.toList ds p := hA0
  rw [Trym.params5] at hA hval
  obtain ⟨v0, vs0, d0, ds0, p0, q0, hargs, rfl, rfl, h0, r0⟩ := trodAll_cons hA
  obtain ⟨v1, vs1, d1, ds1, p1, q1, rfl, rfl, rfl, h1, r1⟩ := trodAll_cons r0
  obtain ⟨v2, vs2, d2, ds2, p2, q2, rfl, rfl, rfl, h2, r2⟩ := trodAll_cons r1
  obtain ⟨rfl, rfl, rfl⟩ := trodAll_nil r2
  obtain rfl : args = #[v0, v1, v2] := by cases args; simp_all
  obtain ⟨rfl, rfl⟩ := trodVars_none hV
  obtain ⟨a0, rfl, rfl, rfl, w0⟩ := open_int Trym.underlying3 (hval 0 3 v0 rfl rfl) h0
  obtain ⟨a1, rfl, rfl, rfl⟩ := open_bool Trym.underlying4 (hval 1 4 v1 rfl rfl) h1
  obtain ⟨a2, rfl, rfl, rfl, w2⟩ := open_int Trym.underlying3 (hval 2 3 v2 rfl rfl) h2
  clear hA0 hval0
  simp only [List.append_nil] at hW'
  refine (walk a0 a1 a2 w0 w2 W).mono fun e W' ⟨he, hg⟩ => ?_
  subst he
  exact ⟨_, rfl, post_of_same (pa := []) (pv := []) hW' (fun _ _ _ => (trodAll_cons_mk (shut_bool Trym.underlying4 _) trodAll_mk0)) (fun sp _ => (trodAll_cons_mk (shut_int Trym.underlying3 w0) (trodAll_cons_mk (shut_bool Trym.underlying4 _) (trodAll_cons_mk (shut_int Trym.underlying3 w2) trodAll_mk0)))) (fun _ _ => rfl) rfl
    (hg.frame _) hg.2.1 (ok_one (by kernel_rfl) rfl (okWide_bool_mk Trym.underlying4 _))⟩

theorem over : Rows.fnNeededRefusesWhatNoStatusCallsForRow.holds Trym.pinned (OpenSpec.ofChange Rows.fnNeededRefusesWhatNoStatusCallsForSpec) :=
  OpenClaim.holds_of_wide 5 Trym.f5 rfl rfl rfl rfl rfl rfl rfl ⟨rfl, rfl, rfl, rfl, rfl⟩ rfl rfl rfl rfl rfl (by kernel_rfl) Trym.func5 (by kernel_rfl)
    (of_decide_eq_true (by kernel_rfl)) (by unfold Func.isWrapper; first | (rw [if_pos (by decide +kernel)]; kernel_rfl) | (rw [if_neg (by decide +kernel)]; exact ⟨rfl, rfl⟩))
    (fun os started H enc _ => lifted os started H enc)

/-- ████ THE STATEMENT ████ -/
theorem proved : Rows.FnNeededRefusesWhatNoStatusCallsForSaid :=
  over
#print axioms proved
end Go.Proofs.Qxb6001136aMods.fnNeededRefusesWhatNoStatusCallsFor
