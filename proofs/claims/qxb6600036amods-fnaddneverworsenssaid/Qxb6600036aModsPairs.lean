/-
  PAIRS: how a slice of pairs of floats is opened; the contracts of sortedPairs (12), cloneHolders (13), zzBytes_FnAddNeverWorsens (15). (An AI prover, Nov 15 2026.)
-/
import Derived.Test.Qxb6600036aModsOpen
import Derived.Test.Qxb6600036aModsCols
import Derived.Deep.MidRow
namespace Go.Proofs.Qxb6600036aMods.Hold
open Go.ChangeShapes Go.WideShapes Go.ChangeAt Go.RowKit Go.Proofs.Qxb6600036aMods.Plain

attribute [local go_sem] run_store_float

section
variable {H : Type} {enc : TypeId × Value → H} {w : World} {base : Nat} {held : Bool}

theorem trod_pair {spare : Nat → Bool} {n : Nat} {cs : List Value} {x : DataW H × List MemPlace} (h : DataW.trod enc Trym.prog w base spare held n 29 cs = some x) : ∃ p q, cs = [.float .f64 p, .float .f64 q] := by
  obtain ⟨xs, m, _, _, hlen, hl, hel⟩ := DataW.trod_array Trym.underlying29 h
  rw [cells29] at hlen
  match cs, hlen with
  | [u, v], _ =>
    have h0 := hel 0 (by omega)
    have h1 := hel 1 (by omega)
    rw [cells26, List.getElem?_eq_getElem (by omega)] at h0 h1
    simp at h0 h1
    obtain ⟨p, rfl⟩ := trod_float h0
    obtain ⟨q, rfl⟩ := trod_float h1
    exact ⟨p, q, rfl⟩

/-- A slice of pairs of floats, as the walks ask it: a flat row. -/
theorem open_pairs {fuel : Nat} {ao : Option Addr} {len cap : Nat} {x : DataW H × List MemPlace} (h : DataW.trod enc Trym.prog w base (fun _ => true) held fuel 28 [.slice ao len cap] = some x) :
    len ≤ maxLen ∧ (ao = none → len = 0 ∧ cap = 0) ∧ ∃ z : List Nat, len * 2 ≤ z.length ∧ Rd w ao (len * 2) z := by
  rcases Deep.open_slice Trym.underlying28 h with ⟨hcs, _⟩ | ⟨a, len', cap', m, n, D, Pl, hcs, _, hl, hm, hmm, _, hx⟩
  · simp at hcs
    obtain ⟨rfl, rfl, rfl⟩ := hcs
    exact ⟨by simp [maxLen], fun _ => ⟨rfl, rfl⟩, [], by simp, .inl rfl⟩
  · simp at hcs hmm
    obtain ⟨rfl, rfl, rfl⟩ := hcs
    subst hmm
    rw [cells29] at hx
    have hV : ∀ i, i < m → ∃ p : Nat × Nat, w.cell? (a.add (i * 2)) = some (.float .f64 p.1) ∧ w.cell? (a.add (i * 2 + 1)) = some (.float .f64 p.2) := fun i hi => by
      obtain ⟨cs, h1, h2⟩ := hx i hi
      obtain ⟨p, q, rfl⟩ := trod_pair h2
      obtain ⟨_, _, h3⟩ := World.cells?_some h1
      have e0 := h3 0 (by omega)
      have e1 := h3 1 (by omega)
      refine ⟨(p, q), ?_, ?_⟩
      · simpa [Addr.add] using e0
      · by_cases hi0 : i = 0
        · subst hi0
          simpa [Addr.add] using e1
        · have e : (a.add (i * 2)).add 1 = a.add (i * 2 + 1) := by
            unfold Addr.add
            rw [if_neg (by omega : ¬ i * 2 = 0), if_neg (by omega : ¬ (1 : Nat) = 0), if_neg (by omega : ¬ i * 2 + 1 = 0)]
            simp [Nat.add_assoc]
          rw [← e, e1]
          rfl
    obtain ⟨f, hf⟩ := Deep.choose_lt (α := Nat × Nat) (p := fun i p => w.cell? (a.add (i * 2)) = some (.float .f64 p.1) ∧ w.cell? (a.add (i * 2 + 1)) = some (.float .f64 p.2)) hV
    refine ⟨by omega, ?_, ?_⟩
    · intro h
      cases h
    refine ⟨(List.range (m * 2)).map fun j => if j % 2 = 0 then (f (j / 2)).1 else (f (j / 2)).2, by simp; omega, ?_⟩
    by_cases h0 : len = 0
    · exact .inl (by omega)
    · obtain ⟨b, off, rfl⟩ := spot_none (hf 0 (by omega)).1
      refine .inr ⟨b, off, rfl, fun j hj => ?_⟩
      have hj' : j < m * 2 := by omega
      obtain ⟨h1, h2⟩ := hf (j / 2) (by omega)
      rw [← add_plain]
      rcases (by omega : j % 2 = 0 ∨ j % 2 = 1) with e | e
      · rw [show j / 2 * 2 = j by omega] at h1
        rw [h1]
        simp [List.getD_eq_getElem?_getD, hj', e]
      · rw [show j / 2 * 2 + 1 = j by omega] at h2
        rw [h2]
        simp [List.getD_eq_getElem?_getD, hj', e]
end

/-! ### zzBytes_FnAddNeverWorsens -/
theorem bytes15_any (ao co : Option Addr) (n c m c2 : Nat) (w : World) (hn : n ≤ maxLen) (hm : m ≤ maxLen) :
    Calls Trym.prog 15 #[.slice ao n c, .slice co m c2] w fun e w' => SomeBool e ∧ w' = w := by
  unfold maxLen at hn hm
  go_enter Trym.func15, Trym.ntmps15
  go_wp2
  all_goals (go_ret; exact ⟨⟨_, rfl⟩, rfl⟩)

/-! ### sortedPairs -/
/-- a <= b. -/
def leB (a b : Nat) : Bool := Ieee.double.order a b == some .lt || Ieee.double.order a b == some .eq

set_option maxHeartbeats 400000 in
theorem sorted_any (ao : Option Addr) (n c : Nat) (z : List Nat) (w : World) (hn : n ≤ 200000) (hr : Rd w ao (n * 2) z) :
    Calls Trym.prog 12 #[.slice ao n c] w fun e w' => (e = .returned (.bool false) ∨ (e = .returned (.bool true) ∧ ∀ i, i < n → leB (z.getD (i * 2) 0) (z.getD (i * 2 + 1) 0) = true)) ∧ ∃ q, w' = w.drewN q := by
  go_enter Trym.func12, Trym.ntmps12
  go_wp2
  go_loopw [3] (fun ti wr => ∃ k : Nat, k ≤ n ∧ ti = .int .i64 k ∧ (∃ q, wr = w.drewN q) ∧ Hid (∀ i, i < k → leB (z.getD (i * 2) 0) (z.getD (i * 2 + 1) 0) = true)) (fun ti _ => n - (intOf ti).toNat)
  case atStart => exact ⟨0, by omega, rfl, ⟨0, rfl⟩, hide (fun i hi => by omega)⟩
  case round =>
    obtain ⟨k, hk, rfl, ⟨q0, rfl⟩, HD⟩ := hrel
    by_cases hlt : k < n
    · obtain ⟨b, off, rfl, hc⟩ := hr.resolve_left (by omega)
      have c0 := hc (k * 2) (by omega)
      have c1 := hc (k * 2 + 1) (by omega)
      rw [← Nat.add_assoc] at c1
      have hnx : leB (z.getD (k * 2) 0) (z.getD (k * 2 + 1) 0) = true → ∀ i, i < k + 1 → leB (z.getD (i * 2) 0) (z.getD (i * 2 + 1) 0) = true := fun h i hi => by
        by_cases e : i = k
        · subst e; exact h
        · exact unhide HD i (by omega)
      have HNX := hide hnx
      clear hnx hc
      generalize z.getD (k * 2) 0 = x at *
      generalize z.getD (k * 2 + 1) 0 = y at *
      have hkn : (k : Int) < n := by omega
      by_cases h : leB x y = true
      · have b1 : (FloatKind.f64.format.order x y == some .lt || FloatKind.f64.format.order x y == some .eq) = true := h
        go_wp2
        all_goals go_quiet (fail)
        all_goals go_wp2
        all_goals
          go_roundw
          case rel => exact ⟨k + 1, by omega, by go_num, ⟨_, rfl⟩, hide (unhide HNX h)⟩
          case measure => simp [intOf]; omega
      · have b1 : (FloatKind.f64.format.order x y == some .lt || FloatKind.f64.format.order x y == some .eq) = false := by simpa [leB, fmt64] using h
        go_wp2
        all_goals go_quiet (fail)
        all_goals go_wp2
        all_goals (go_ret; exact ⟨.inl rfl, _, World.drewN_drewN _ _ _⟩)
    · obtain rfl : k = n := by omega
      go_wp2
      go_ret
      exact ⟨.inr ⟨rfl, unhide HD⟩, _, rfl⟩

/-! ### cloneHolders -/
theorem hclone_nil (w : World) : Calls Trym.prog 13 #[.slice none 0 0] w fun e w' => e = .returned (.slice none 0 0) ∧ w' = w := by
  have hnil := fun wx => Lib.run_eql_slice_nil (P := Trym.prog) wx 28 29 none 0 0 0 0 Trym.underlying28
  go_enter Trym.func13, Trym.ntmps13
  go_wp2
  go_ret
  exact ⟨rfl, rfl⟩

theorem size29 : (Trym.prog.info? 29).map (·.size) = some 2 := by kernel_rfl

theorem load29 {w : World} {b o x y : Nat} (c0 : w.cell? ⟨b, o, none⟩ = some (.float .f64 x)) (c1 : w.cell? ⟨b, o + 1, none⟩ = some (.float .f64 y)) :
    (Instr.loadAt 29 (.pointer (some ⟨b, o, none⟩))).run Trym.prog w = .ok (.agg #[.float .f64 x, .float .f64 y]) w := by
  refine run_loadAt_mid (P := Trym.prog) w b o 29 [.float .f64 x, .float .f64 y] _ (fun j v hv => ?_) Trym.underlying29 rfl size29
  match j, hv with
  | 0, hv => simp at hv; subst hv; exact c0
  | 1, hv => simp at hv; subst hv; exact c1

theorem store29 {w : World} {b o x y x' y' : Nat} (c0 : w.cell? ⟨b, o, none⟩ = some (.float .f64 x')) (c1 : w.cell? ⟨b, o + 1, none⟩ = some (.float .f64 y')) (f0 : w.frozen? ⟨b, o, none⟩ = false) (f1 : w.frozen? ⟨b, o + 1, none⟩ = false) :
    (Instr.storeAt 29 (.pointer (some ⟨b, o, none⟩)) (.agg #[.float .f64 x, .float .f64 y])).run Trym.prog w = .ok () ((w.setCell ⟨b, o, none⟩ (.float .f64 x)).setCell ⟨b, o + 1, none⟩ (.float .f64 y)) := by
  have := run_storeAt_mid (P := Trym.prog) w b o 29 #[.float .f64 x, .float .f64 y] (fun j hj => ?_) size29 (by simp [Value.oneCell'])
  · rw [this]; rfl
  · match j, hj with
    | 0, _ => exact ⟨by rw [Nat.add_zero, c0]; rfl, f0⟩
    | 1, _ => exact ⟨by rw [c1]; rfl, f1⟩

theorem pair_fill (zs : List Nat) (k len : Nat) (hk : k < len) (hl : len * 2 ≤ zs.length) :
    ((zs.take (k * 2) ++ List.replicate (len * 2 - k * 2) 0).set (k * 2) (zs.getD (k * 2) 0)).set (k * 2 + 1) (zs.getD (k * 2 + 1) 0) = zs.take ((k + 1) * 2) ++ List.replicate (len * 2 - (k + 1) * 2) 0 := by
  rw [take_fill zs (k * 2) (len * 2) (by omega) hl, take_fill zs (k * 2 + 1) (len * 2) (by omega) hl, show k * 2 + 1 + 1 = (k + 1) * 2 by omega]

set_option maxHeartbeats 400000 in
theorem hclone_some (x : Addr) (len cap : Nat) (zs : List Nat) (w : World) (hl : len * 2 ≤ zs.length) (h17 : len ≤ 200000) (hr : Rd w (some x) (len * 2) zs) :
    Calls Trym.prog 13 #[.slice (some x) len cap] w fun e w' => e = .returned (.slice (some ⟨w.heap.size, 0, none⟩) len len) ∧ Below w.heap.size w w' ∧ Rf w' w.heap.size (zs.take (len * 2)) ∧ w'.heap.size = w.heap.size + 1 := by
  have hnil := fun wx => Lib.run_eql_slice_nil (P := Trym.prog) wx 28 29 (some x) len cap 0 0 Trym.underlying28
  have hmk := run_make28 len h17
  have hmp := made_pairs len
  generalize madeCells #[Value.float .f64 0, Value.float .f64 0] (len * 2) = mc at *
  have HMP := hide hmp
  clear hmp
  go_enter Trym.func13, Trym.ntmps13
  go_wp2
  go_loopw [4] (fun i wr => ∃ k : Nat, k ≤ len ∧ i = .int .i64 k ∧ Below w.heap.size w wr ∧ wr.heap.size = w.heap.size + 1 ∧ Rf wr w.heap.size (zs.take (k * 2) ++ List.replicate (len * 2 - k * 2) 0))
    (fun i _ => len - (intOf i).toNat)
  case atStart =>
    refine ⟨0, Nat.zero_le _, rfl, (Below.refl _ _).alloc (Nat.le_refl _) _, by simp, 29, ?_⟩
    rw [heap_alloc_new, unhide HMP]
    simp
  case round =>
    obtain ⟨k, hk, rfl, hb, hsz, hrow⟩ := hrel
    by_cases hlt : k < len
    · obtain ⟨b, off, hx, hc⟩ := hr.resolve_left (by omega)
      injection hx with hx
      subst hx
      have d0 := hc (k * 2) (by omega)
      have d1 := hc (k * 2 + 1) (by omega)
      rw [← hb.cell (p := ⟨b, off + k * 2, none⟩) (World.block_lt_of_cell? w _ d0)] at d0
      rw [← hb.cell (p := ⟨b, off + (k * 2 + 1), none⟩) (World.block_lt_of_cell? w _ d1), ← Nat.add_assoc] at d1
      have hll : (zs.take (k * 2) ++ List.replicate (len * 2 - k * 2) 0).length = len * 2 := by simp; omega
      have c0 := hrow.cell (j := k * 2) (by rw [hll]; omega)
      have c1 := hrow.cell (j := k * 2 + 1) (by rw [hll]; omega)
      have hfill := pair_fill zs k len hlt hl
      have hrow' := (hrow.set (k * 2) (zs.getD (k * 2) 0)).set (k * 2 + 1) (zs.getD (k * 2 + 1) 0)
      rw [hfill] at hrow'
      have hld := load29 d0 d1
      have hst := store29 (x := zs.getD (k * 2) 0) (y := zs.getD (k * 2 + 1) 0) c0 c1 (hrow.frozen _) (hrow.frozen _)
      generalize zs.getD (k * 2) 0 = v0 at *
      generalize zs.getD (k * 2 + 1) 0 = v1 at *
      have HR := hide hrow'
      have HSZ := hide hsz
      have f0 := hrow.frozen (k * 2)
      have f1 := hrow.frozen (k * 2 + 1)
      clear hrow' hsz hfill hc hmk hnil hll hrow hld hst
      have hkn : (k : Int) < len := by omega
      go_wp2
      go_roundw
      case rel => exact ⟨k + 1, by omega, by go_num, (hb.setCell (Nat.le_refl _) _).setCell (Nat.le_refl _) _, by simp [World.setCell, unhide HSZ], unhide HR⟩
      case measure => simp [intOf]; omega
    · have HSZ := hide hsz
      clear hsz
      obtain rfl : k = len := by omega
      go_wp2
      go_ret
      exact ⟨rfl, hb, by simpa using hrow, unhide HSZ⟩

theorem hclone_any (ao : Option Addr) (len cap : Nat) (zs : List Nat) (w : World) (hnil : ao = none → len = 0 ∧ cap = 0) (hl : len * 2 ≤ zs.length) (h17 : len ≤ 200000) (hr : Rd w ao (len * 2) zs) :
    Calls Trym.prog 13 #[.slice ao len cap] w fun e w' => ∃ co, e = .returned (.slice co len len) ∧ Below w.heap.size w w' ∧ (co = none → len = 0) ∧ (len = 0 ∨ ∃ g, co = some ⟨g, 0, none⟩ ∧ w.heap.size ≤ g ∧ g < w'.heap.size ∧ Rf w' g (zs.take (len * 2))) := by
  cases ao with
  | none =>
    obtain ⟨rfl, rfl⟩ := hnil rfl
    refine (hclone_nil w).mono ?_
    rintro e w' ⟨rfl, rfl⟩
    exact ⟨none, rfl, Below.refl _ _, fun _ => rfl, .inl rfl⟩
  | some x =>
    refine (hclone_some x len cap zs w hl h17 hr).mono ?_
    rintro e w' ⟨rfl, hb, hR, hz⟩
    exact ⟨_, rfl, hb, fun h => (by cases h), .inr ⟨_, rfl, Nat.le_refl _, by omega, hR⟩⟩
end Go.Proofs.Qxb6600036aMods.Hold
