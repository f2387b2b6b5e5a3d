/-
  THE CONTRACTS OF cloneRun (14), holders.add (18), ZZHoldersAdd (9), twoSmallest (10). (An AI prover, Nov 15 2026.)
-/
import Derived.Test.Qxb6600036aModsBase
namespace Go.Proofs.Qxb6600036aMods.Hold
open Go.ChangeShapes Go.WideShapes Go.ChangeAt Go.RowKit Go.Proofs.Qxb6600036aMods.Plain

attribute [local go_sem] run_store_float

theorem add_none (ho co : Option Addr) (n c1 c2 : Nat) (w : World) : Calls Trym.prog 18 #[.slice ho n c1, .slice co 0 c2] w fun e w' => e = .returned (.tuple #[]) ∧ w' = w := by
  go_enter Trym.func18, Trym.ntmps18
  go_wp2
  go_loop [8] (fun ti => ti = .int .i64 0) (fun _ => 0)
  case atStart => rfl
  case round =>
    subst hrel
    go_wp2
    go_end0
    exact ⟨rfl, rfl⟩

set_option maxRecDepth 100000 in
set_option maxHeartbeats 400000 in
theorem add_some (g c n m c1 c2 : Nat) (ps ts : List Nat) (w : World) (hne : c ≠ g) (hg : Rf w g ps) (hc : Rf w c ts) (hp : ps.length = n * 2) (ht : ts.length = m) (hmn : m ≤ n) (hn : n ≤ 200000) :
    Calls Trym.prog 18 #[.slice (some ⟨g, 0, none⟩) n c1, .slice (some ⟨c, 0, none⟩) m c2] w fun e w' => e = .returned (.tuple #[]) ∧ w.grownBy w' (some g) ∧ w'.heap.size = w.heap.size ∧ Rf w' g (addTo ps ts m) := by
  have HP := hide hp
  have HT := hide ht
  clear hp ht
  go_enter Trym.func18, Trym.ntmps18
  go_wp2
  go_loopw [8] (fun ti wr => ∃ k : Nat, k ≤ m ∧ ti = .int .i64 k ∧ w.grownBy wr (some g) ∧ wr.heap.size = w.heap.size ∧ Rf wr g (addTo ps ts k)) (fun ti _ => m - (intOf ti).toNat)
  case atStart => exact ⟨0, by omega, rfl, grown_refl _ _, rfl, hg⟩
  case round =>
    obtain ⟨k, hk, rfl, hgr, hsz, hrw⟩ := hrel
    have HSZ := hide hsz
    clear hsz
    by_cases hlt : k < m
    · have hcr := (hc.grown hgr (by simpa using hne)).cell (j := k) (by rw [unhide HT]; omega)
      have hl : (addTo ps ts k).length = n * 2 := by rw [length_addTo, unhide HP]
      have c0 := hrw.cell (j := k * 2) (by rw [hl]; omega)
      have c1' := hrw.cell (j := k * 2 + 1) (by rw [hl]; omega)
      have f0 := hrw.frozen (k * 2)
      have f1' := hrw.frozen (k * 2 + 1)
      obtain ⟨sA, sB, sC⟩ := addTo_step ps ts k (by rw [unhide HP]; omega)
      generalize addTo ps ts k = qs at *
      generalize ts.getD k 0 = t at *
      generalize qs.getD (k * 2) 0 = p0 at *
      generalize qs.getD (k * 2 + 1) 0 = p1 at *
      have SA := hide sA
      have SB := hide sB
      have SC := hide sC
      clear sA sB sC hl
      have hkn : (k : Int) < n := by omega
      by_cases h1 : ltB t p0 = true
      · have b1 : (FloatKind.f64.format.order t p0 == some .lt) = true := h1
        have hr2 := (hrw.set (k * 2) t).set (k * 2 + 1) p0
        rw [← unhide SA h1] at hr2
        have HR2 := hide hr2
        clear hr2
        go_wp2
        go_roundw
        case rel => exact ⟨k + 1, by omega, by go_num, grown_set (grown_set hgr _ _) _ _, by simp [World.setCell, unhide HSZ], unhide HR2⟩
        case measure => simp [intOf]; omega
      · have b1 : (FloatKind.f64.format.order t p0 == some .lt) = false := by simpa [ltB, fmt64] using h1
        by_cases h2 : ltB t p1 = true
        · have b2 : (FloatKind.f64.format.order t p1 == some .lt) = true := h2
          have hr2 := hrw.set (k * 2 + 1) t
          rw [← unhide SB h1 h2] at hr2
          have HR2 := hide hr2
          clear hr2
          go_wp2
          go_roundw
          case rel => exact ⟨k + 1, by omega, by go_num, grown_set hgr _ _, by simp [World.setCell, unhide HSZ], unhide HR2⟩
          case measure => simp [intOf]; omega
        · have b2 : (FloatKind.f64.format.order t p1 == some .lt) = false := by simpa [ltB, fmt64] using h2
          have hr2 := hrw
          rw [← unhide SC h1 h2] at hr2
          have HR2 := hide hr2
          clear hr2
          go_wp2
          go_roundw
          case rel => exact ⟨k + 1, by omega, by go_num, hgr, unhide HSZ, unhide HR2⟩
          case measure => simp [intOf]; omega
    · obtain rfl : k = m := by omega
      go_wp2
      go_end0
      exact ⟨rfl, hgr, unhide HSZ, hrw⟩

theorem zadd_none (ho co : Option Addr) (n c1 c2 : Nat) (w : World) : Calls Trym.prog 9 #[.slice ho n c1, .slice co 0 c2] w fun e w' => e = .returned (.tuple #[]) ∧ w' = w := by
  go_enter Trym.func9, Trym.ntmps9
  go_wp2_with fail
  refine (add_none ho co n c1 c2 w).mono ?_
  rintro e w ⟨rfl, rfl⟩
  go_wp2
  go_end0
  exact ⟨rfl, rfl⟩

theorem zadd_some (g c n m c1 c2 : Nat) (ps ts : List Nat) (w : World) (hne : c ≠ g) (hg : Rf w g ps) (hc : Rf w c ts) (hp : ps.length = n * 2) (ht : ts.length = m) (hmn : m ≤ n) (hn : n ≤ 200000) :
    Calls Trym.prog 9 #[.slice (some ⟨g, 0, none⟩) n c1, .slice (some ⟨c, 0, none⟩) m c2] w fun e w' => e = .returned (.tuple #[]) ∧ w.grownBy w' (some g) ∧ w'.heap.size = w.heap.size ∧ Rf w' g (addTo ps ts m) := by
  have HH := hide (add_some g c n m c1 c2 ps ts w hne hg hc hp ht hmn hn)
  clear hg hc hp ht
  go_enter Trym.func9, Trym.ntmps9
  go_wp2_with fail
  refine (unhide HH).mono ?_
  rintro e w1 ⟨rfl, h1, h2, h3⟩
  have R := hide (And.intro h1 (And.intro h2 h3))
  clear h1 h2 h3
  go_wp2
  go_end0
  exact ⟨rfl, unhide R⟩

/-! ### cloneRun -/
theorem take_fill (zs : List Nat) (k len : Nat) (hk : k < len) (hl : len ≤ zs.length) :
    (zs.take k ++ List.replicate (len - k) 0).set k (zs.getD k 0) = zs.take (k + 1) ++ List.replicate (len - (k + 1)) 0 := by
  apply List.ext_getElem?
  intro j
  rw [List.getElem?_set]
  simp only [List.getElem?_append, List.length_take, List.getElem?_take, List.getElem?_replicate, List.length_append, List.length_replicate, List.getD_eq_getElem?_getD]
  by_cases h1 : k = j
  · subst h1
    have : k < zs.length := by omega
    simp [this, show k < min (k + 1) zs.length by omega, show k < min k zs.length + (len - k) by omega]
  · rw [if_neg h1]
    by_cases h2 : j < k
    · simp [h2, show j < min k zs.length by omega, show j < min (k + 1) zs.length by omega, show j < k + 1 by omega]
    · have e1 : ¬ j < min k zs.length := by omega
      have e2 : ¬ j < min (k + 1) zs.length := by omega
      rw [if_neg e1, if_neg e2]
      by_cases h3 : j < len
      · rw [if_pos (by omega), if_pos (by omega)]
      · rw [if_neg (by omega), if_neg (by omega)]

theorem info26 : (Trym.prog.info? 26).map (fun i => (i.zero, i.size, i.bytes)) = some (some (.float .f64 0), 1, 8) := by kernel_rfl

/-- The first 'len' floats can be read. -/
def Rd (w : World) (ao : Option Addr) (len : Nat) (z : List Nat) : Prop :=
  len = 0 ∨ ∃ b off, ao = some ⟨b, off, none⟩ ∧ ∀ i, i < len → w.cell? ⟨b, off + i, none⟩ = some (.float .f64 (z.getD i 0))

theorem Rd.kept {w w' : World} {ao : Option Addr} {len : Nat} {z : List Nat} (h : Rd w ao len z) (hb : Below w.heap.size w w') : Rd w' ao len z := by
  rcases h with h | ⟨b, off, h1, h2⟩
  · exact .inl h
  · exact .inr ⟨b, off, h1, fun i hi => by rw [hb.cell (p := ⟨b, off + i, none⟩) (World.block_lt_of_cell? w _ (h2 i hi))]; exact h2 i hi⟩

theorem clone_nil (w : World) : Calls Trym.prog 14 #[.slice none 0 0] w fun e w' => e = .returned (.slice none 0 0) ∧ w' = w := by
  have hnil := fun wx => Lib.run_eql_slice_nil (P := Trym.prog) wx 24 26 none 0 0 0 0 Trym.underlying24
  go_enter Trym.func14, Trym.ntmps14
  go_wp2
  go_ret
  exact ⟨rfl, rfl⟩

set_option maxHeartbeats 400000 in
theorem clone_some (x : Addr) (len cap : Nat) (zs : List Nat) (w : World) (hl : len ≤ zs.length) (h17 : len ≤ 200000) (hr : Rd w (some x) len zs) :
    Calls Trym.prog 14 #[.slice (some x) len cap] w fun e w' => e = .returned (.slice (some ⟨w.heap.size, 0, none⟩) len len) ∧ Below w.heap.size w w' ∧ Rf w' w.heap.size (zs.take len) ∧ w'.heap.size = w.heap.size + 1 := by
  have hnil := fun wx => Lib.run_eql_slice_nil (P := Trym.prog) wx 24 26 (some x) len cap 0 0 Trym.underlying24
  have hmk := run_make_row' (P := Trym.prog) 24 26 (.float .f64 0) 8 Trym.underlying24 info26 rfl .i64 .i64 len (by omega) (by omega)
  go_enter Trym.func14, Trym.ntmps14
  go_wp2
  go_loopw [4] (fun i wr => ∃ k : Nat, k ≤ len ∧ i = .int .i64 k ∧ Below w.heap.size w wr ∧ wr.heap.size = w.heap.size + 1 ∧ Rf wr w.heap.size (zs.take k ++ List.replicate (len - k) 0))
    (fun i _ => len - (intOf i).toNat)
  case atStart =>
    refine ⟨0, Nat.zero_le _, rfl, (Below.refl _ _).alloc (Nat.le_refl _) _, by simp, 26, ?_⟩
    rw [heap_alloc_new]
    have : madeCells #[Value.float .f64 0] len = ((zs.take 0 ++ List.replicate (len - 0) 0).map (Value.float .f64)).toArray := by
      apply Array.toList_inj.1
      rw [toList_madeCells_one]
      simp
    rw [this]
  case round =>
    obtain ⟨k, hk, rfl, hb, hsz, hrow⟩ := hrel
    by_cases hlt : k < len
    · obtain ⟨b, off, hx, hc⟩ := hr.resolve_left (by omega)
      injection hx with hx
      subst hx
      have h0 := hc k hlt
      have h1 : wr.cell? ⟨b, off + k, none⟩ = some (.float .f64 (zs.getD k 0)) := by rw [hb.cell (p := ⟨b, off + k, none⟩) (World.block_lt_of_cell? w _ h0)]; exact h0
      have h2 := hrow.cell (j := k) (by simp; omega)
      have h3 := hrow.frozen k
      have hfill := take_fill zs k len hlt hl
      have hrow' := hrow.set k (zs.getD k 0)
      rw [hfill] at hrow'
      generalize (zs.take k ++ List.replicate (len - k) 0).getD k 0 = y at h2
      generalize zs.getD k 0 = v at *
      clear hfill h0 hc hmk hnil
      have HR := hide hrow'
      have HSZ := hide hsz
      clear hrow' hsz
      go_wp2
      go_roundw
      case rel => exact ⟨k + 1, by omega, by go_num, hb.setCell (Nat.le_refl _) _, by simp [World.setCell, unhide HSZ], unhide HR⟩
      case measure => simp [intOf]; omega
    · have HSZ := hide hsz
      clear hsz
      obtain rfl : k = len := by omega
      go_wp2
      go_ret
      exact ⟨rfl, hb, by simpa using hrow, unhide HSZ⟩
end Go.Proofs.Qxb6600036aMods.Hold
