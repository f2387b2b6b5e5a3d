/-
  THE CONTRACTS OF zzBytes_FnKeysIDAgainstScan (11), zzStringsFit (12), zzCopyStrings (13). (An AI prover, Nov 15 2026.)
-/
import Derived.Test.Qxb6003009aModsBase
namespace Go.Proofs.Qxb6003009aMods.Keys
open Go.ChangeShapes Go.WideShapes Go.ChangeAt Go.RowKit

/-- The call returned some bool. -/
def SomeBool (e : Ending) : Prop := ∃ b, e = .returned (.bool b)

/-- The first 'len' strings can be read. -/
def Rd (w : World) (ao : Option Addr) (len : Nat) (z : List ByteArray) : Prop :=
  len = 0 ∨ ∃ b off, ao = some ⟨b, off, none⟩ ∧ ∀ i, i < len → w.cell? ⟨b, off + i, none⟩ = some (.string (z.getD i ByteArray.empty))

theorem rd_of {w : World} {x : Addr} {len : Nat} {z : List ByteArray} (hl : len ≤ z.length) (hcell : ∀ i, i < z.length → w.cell? (x.add i) = some (.string (z.getD i ByteArray.empty))) : Rd w (some x) len z := by
  by_cases h0 : len = 0
  · exact .inl h0
  · obtain ⟨b, off, spot⟩ := x
    have hspot : spot = none := by simpa [Addr.add] using World.cell?_spot (hcell 0 (by omega))
    subst hspot
    exact .inr ⟨b, off, rfl, fun i hi => by rw [← add_plain]; exact hcell i (by omega)⟩

set_option maxHeartbeats 400000 in
theorem bytes_any (ao : Option Addr) (len cap : Nat) (s : ByteArray) (z : List ByteArray) (w : World) (hm : len ≤ maxLen) (hr : Rd w ao len z) :
    Calls Trym.prog 11 #[.slice ao len cap, .string s] w fun e w' => SomeBool e ∧ w' = w := by
  unfold maxLen at hm
  by_cases h1 : len ≤ 1048576
  · go_enter Trym.func11, Trym.ntmps11
    go_wp2
    go_loop [5, 6] (fun tz ti => ∃ (x : Int) (k : Nat), k ≤ len ∧ tz = .int .i64 x ∧ ti = .int .i64 k) (fun _ ti => len - (intOf ti).toNat)
    case atStart => exact ⟨_, 0, by omega, rfl, rfl⟩
    case round =>
      obtain ⟨x, k, hk, rfl, rfl⟩ := hrel
      by_cases hlt : k < len
      · obtain ⟨b, off, rfl, hc⟩ := hr.resolve_left (by omega)
        have hck := hc k hlt
        clear hc
        generalize z.getD k ByteArray.empty = t at hck
        go_wp2
        all_goals first
          | (go_ret; exact ⟨⟨_, rfl⟩, rfl⟩)
          | skip
        all_goals
          go_round
          case rel => exact ⟨_, k + 1, by omega, rfl, by go_num⟩
          case measure => simp [intOf]; omega
      · go_wp2
        all_goals (go_ret; exact ⟨⟨_, rfl⟩, rfl⟩)
  · go_enter Trym.func11, Trym.ntmps11
    go_wp2
    go_ret
    exact ⟨⟨_, rfl⟩, rfl⟩

set_option maxHeartbeats 400000 in
theorem fit_any (ao : Option Addr) (len cap : Nat) (l : Int) (z : List ByteArray) (w : World) (hm : len ≤ maxLen) (hr : Rd w ao len z) :
    Calls Trym.prog 12 #[.slice ao len cap, .int .i64 l] w fun e w' => SomeBool e ∧ w' = w := by
  unfold maxLen at hm
  go_enter Trym.func12, Trym.ntmps12
  go_wp2
  go_loop [5, 6] (fun tz ti => ∃ (x : Int) (k : Nat), k ≤ len ∧ tz = .int .i64 x ∧ ti = .int .i64 k) (fun _ ti => len - (intOf ti).toNat)
  case atStart => exact ⟨_, 0, by omega, rfl, rfl⟩
  case round =>
    obtain ⟨x, k, hk, rfl, rfl⟩ := hrel
    by_cases hlt : k < len
    · obtain ⟨b, off, rfl, hc⟩ := hr.resolve_left (by omega)
      have hck := hc k hlt
      clear hc
      generalize z.getD k ByteArray.empty = t at hck
      go_wp2
      all_goals first
        | (go_ret; exact ⟨⟨_, rfl⟩, rfl⟩)
        | skip
      all_goals
        go_round
        case rel => exact ⟨_, k + 1, by omega, rfl, by go_num⟩
        case measure => simp [intOf]; omega
    · go_wp2
      go_ret
      exact ⟨⟨_, rfl⟩, rfl⟩

/-! ### zzCopyStrings -/
theorem take_fill (zs : List ByteArray) (k len : Nat) (hk : k < len) (hl : len ≤ zs.length) :
    (zs.take k ++ List.replicate (len - k) ByteArray.empty).set k (zs.getD k ByteArray.empty) = zs.take (k + 1) ++ List.replicate (len - (k + 1)) ByteArray.empty := by
  apply List.ext_getElem?
  intro j
  rw [List.getElem?_set]
  simp only [List.getElem?_append, List.length_take, List.getElem?_take, List.getElem?_replicate, List.length_append, List.length_replicate, List.getD_eq_getElem?_getD]
  by_cases h1 : k = j
  · subst h1
    have : k < zs.length := by omega
    simp [this, show k < min (k + 1) zs.length by omega, show k < min k zs.length + (len - k) by omega]
  · rw [if_neg h1]
    by_cases h2 : j < k
    · simp [h2, show j < min k zs.length by omega, show j < min (k + 1) zs.length by omega, show j < k + 1 by omega]
    · have e1 : ¬ j < min k zs.length := by omega
      have e2 : ¬ j < min (k + 1) zs.length := by omega
      rw [if_neg e1, if_neg e2]
      by_cases h3 : j < len
      · rw [if_pos (by omega), if_pos (by omega)]
      · rw [if_neg (by omega), if_neg (by omega)]

theorem info9 : (Trym.prog.info? 9).map (fun i => (i.zero, i.size, i.bytes)) = some (some (.string ByteArray.empty), 1, 16) := by kernel_rfl

theorem copy_nil (w : World) : Calls Trym.prog 13 #[.slice none 0 0] w fun e w' => e = .returned (.slice none 0 0) ∧ w' = w := by
  have hnil := fun wx => Lib.run_eql_slice_nil (P := Trym.prog) wx 29 9 none 0 0 0 0 Trym.underlying29
  go_enter Trym.func13, Trym.ntmps13
  go_wp2
  go_ret
  exact ⟨rfl, rfl⟩

set_option maxHeartbeats 400000 in
theorem copy_some (x : Addr) (len cap : Nat) (zs : List ByteArray) (w : World) (hl : len ≤ zs.length) (h16 : len ≤ 65536) (hr : Rd w (some x) len zs) :
    Calls Trym.prog 13 #[.slice (some x) len cap] w fun e w' => e = .returned (.slice (some ⟨w.heap.size, 0, none⟩) len len) ∧ Below w.heap.size w w' ∧ Rs w' w.heap.size (zs.take len) ∧ w'.heap.size = w.heap.size + 1 := by
  have hnil := fun wx => Lib.run_eql_slice_nil (P := Trym.prog) wx 29 9 (some x) len cap 0 0 Trym.underlying29
  have hmk := run_make_row' (P := Trym.prog) 29 9 (.string ByteArray.empty) 16 Trym.underlying29 info9 rfl .i64 .i64 len (by omega) (by omega)
  go_enter Trym.func13, Trym.ntmps13
  go_wp2
  go_loopw [4] (fun i wr => ∃ k : Nat, k ≤ len ∧ i = .int .i64 k ∧ Below w.heap.size w wr ∧ wr.heap.size = w.heap.size + 1 ∧ Rs wr w.heap.size (zs.take k ++ List.replicate (len - k) ByteArray.empty))
    (fun i _ => len - (intOf i).toNat)
  case atStart =>
    refine ⟨0, Nat.zero_le _, rfl, (Below.refl _ _).alloc (Nat.le_refl _) _, by simp, ?_⟩
    unfold Rs
    rw [heap_alloc_new]
    have : madeCells #[Value.string ByteArray.empty] len = ((zs.take 0 ++ List.replicate (len - 0) ByteArray.empty).map Value.string).toArray := by
      apply Array.toList_inj.1
      rw [toList_madeCells_one]
      simp
    rw [this]
  case round =>
    obtain ⟨k, hk, rfl, hb, hsz, hrow⟩ := hrel
    by_cases hlt : k < len
    · obtain ⟨b, off, hx, hc⟩ := hr.resolve_left (by omega)
      injection hx with hx
      subst hx
      have h0 := hc k hlt
      have h1 : wr.cell? ⟨b, off + k, none⟩ = some (.string (zs.getD k ByteArray.empty)) := by rw [hb.cell (p := ⟨b, off + k, none⟩) (World.block_lt_of_cell? w _ h0)]; exact h0
      have h2 := hrow.cell (j := k) (by simp; omega)
      have h3 := hrow.frozen k
      have hfill := take_fill zs k len hlt hl
      have hrow' := hrow.set k (zs.getD k ByteArray.empty)
      rw [hfill] at hrow'
      generalize (zs.take k ++ List.replicate (len - k) ByteArray.empty).getD k ByteArray.empty = y at h2
      generalize zs.getD k ByteArray.empty = v at *
      clear hfill h0 hc hmk hnil
      have HR := hide hrow'
      have HSZ := hide hsz
      clear hrow' hsz
      go_wp2
      go_roundw
      case rel => exact ⟨k + 1, by omega, by go_num, hb.setCell (Nat.le_refl _) _, by simp [World.setCell, unhide HSZ], unhide HR⟩
      case measure => simp [intOf]; omega
    · have HSZ := hide hsz
      clear hsz
      obtain rfl : k = len := by omega
      go_wp2
      go_ret
      exact ⟨rfl, hb, by simpa using hrow, unhide HSZ⟩
end Go.Proofs.Qxb6003009aMods.Keys
