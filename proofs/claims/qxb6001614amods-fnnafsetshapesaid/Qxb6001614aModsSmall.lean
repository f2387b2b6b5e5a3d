/-
  THE CONTRACTS OF zzBytes_.. (functions 5 and 9), cloneBytes (6) AND ZZNafSet (7). (An AI prover, Nov 15 2026.)
-/
import Derived.Test.Qxb6001614aModsSet
import Derived.Deep.OwnRows
import Derived.Laws.ResultCell
import Derived.OpenShut
namespace Go.Proofs.Qxb6001614aMods.Naf
open Go.ChangeShapes Go.WideShapes Go.ChangeAt Go.RowKit Go.Proofs.Qxb6001614aMods.Plain

theorem hide {p : Prop} (h : p) : Hid p := h
theorem unhide {p : Prop} (h : Hid p) : p := h

theorem bytes5_yes (ao : Option Addr) (len cap : Nat) (x : Int) (w : World) (h : len ≤ 1048576) :
    Calls Trym.prog 5 #[.slice ao len cap, .int .u64 x] w fun e w' => e = .returned (.bool true) ∧ w' = w := by
  go_enter Trym.func5, Trym.ntmps5
  go_wp2
  go_ret
  exact ⟨rfl, rfl⟩

theorem bytes5_no (ao : Option Addr) (len cap : Nat) (x : Int) (w : World) (h : ¬ len ≤ 1048576) :
    Calls Trym.prog 5 #[.slice ao len cap, .int .u64 x] w fun e w' => e = .returned (.bool false) ∧ w' = w := by
  go_enter Trym.func5, Trym.ntmps5
  go_wp2
  go_ret
  exact ⟨rfl, rfl⟩

theorem bytes9_yes (ao : Option Addr) (len cap : Nat) (x : Int) (w : World) (h : len ≤ 1048576) :
    Calls Trym.prog 9 #[.slice ao len cap, .int .u64 x] w fun e w' => e = .returned (.bool true) ∧ w' = w := by
  go_enter Trym.func9, Trym.ntmps9
  go_wp2
  go_ret
  exact ⟨rfl, rfl⟩

theorem bytes9_no (ao : Option Addr) (len cap : Nat) (x : Int) (w : World) (h : ¬ len ≤ 1048576) :
    Calls Trym.prog 9 #[.slice ao len cap, .int .u64 x] w fun e w' => e = .returned (.bool false) ∧ w' = w := by
  go_enter Trym.func9, Trym.ntmps9
  go_wp2
  go_ret
  exact ⟨rfl, rfl⟩

/-! ### cloneBytes -/
theorem take_fill (zs : List Int) (k len : Nat) (hk : k < len) (hl : len ≤ zs.length) :
    (zs.take k ++ List.replicate (len - k) 0).set k (zs.getD k 0) = zs.take (k + 1) ++ List.replicate (len - (k + 1)) 0 := by
  apply List.ext_getElem?
  intro j
  rw [List.getElem?_set]
  simp only [List.getElem?_append, List.length_take, List.getElem?_take, List.getElem?_replicate, List.length_append, List.length_replicate, List.getD_eq_getElem?_getD]
  by_cases h1 : k = j
  · subst h1
    have : k < zs.length := by omega
    simp [this, show k < min (k + 1) zs.length by omega, show k < min k zs.length + (len - k) by omega]
  · rw [if_neg h1]
    by_cases h2 : j < k
    · simp [h2, show j < min k zs.length by omega, show j < min (k + 1) zs.length by omega, show j < k + 1 by omega]
    · have e1 : ¬ j < min k zs.length := by omega
      have e2 : ¬ j < min (k + 1) zs.length := by omega
      rw [if_neg e1, if_neg e2]
      by_cases h3 : j < len
      · rw [if_pos (by omega), if_pos (by omega)]
      · rw [if_neg (by omega), if_neg (by omega)]

theorem info5 : (Trym.prog.info? 5).map (fun i => (i.zero, i.size, i.bytes)) = some (some (.int .u8 0), 1, 1) := by kernel_rfl

theorem clone_nil (w : World) : Calls Trym.prog 6 #[.slice none 0 0] w fun e w' => e = .returned (.slice none 0 0) ∧ w' = w := by
  have hnil := fun wx => Lib.run_eql_slice_nil (P := Trym.prog) wx 22 5 none 0 0 0 0 Trym.underlying22
  go_enter Trym.func6, Trym.ntmps6
  go_wp2
  go_ret
  exact ⟨rfl, rfl⟩

set_option maxHeartbeats 400000 in
theorem clone_some (x : Addr) (len cap : Nat) (zs : List Int) (w : World) (hl : len ≤ zs.length) (h32 : len ≤ 32)
    (hcell : ∀ i, i < zs.length → w.cell? (x.add i) = some (.int .u8 (zs.getD i 0))) :
    Calls Trym.prog 6 #[.slice (some x) len cap] w fun e w' => e = .returned (.slice (some ⟨w.heap.size, 0, none⟩) len len) ∧ Below w.heap.size w w' ∧ Rw w' w.heap.size .u8 (zs.take len) ∧ w'.heap.size = w.heap.size + 1 := by
  have hnil := fun wx => Lib.run_eql_slice_nil (P := Trym.prog) wx 22 5 (some x) len cap 0 0 Trym.underlying22
  have hmk := run_make_row' (P := Trym.prog) 22 5 (.int .u8 0) 1 Trym.underlying22 info5 rfl .i64 .i64 len (by omega) (by omega)
  go_enter Trym.func6, Trym.ntmps6
  go_wp2
  go_loopw [4] (fun i wr => ∃ k : Nat, k ≤ len ∧ i = .int .i64 k ∧ Below w.heap.size w wr ∧ wr.heap.size = w.heap.size + 1 ∧ Rw wr w.heap.size .u8 (zs.take k ++ List.replicate (len - k) 0))
    (fun i _ => len - (intOf i).toNat)
  case atStart =>
    refine ⟨0, Nat.zero_le _, rfl, (Below.refl _ _).alloc (Nat.le_refl _) _, by simp, ?_⟩
    exact Rw.new w .u8 _ _ _ (by apply Array.toList_inj.1; rw [toList_madeCells_one]; simp)
  case round =>
    obtain ⟨k, hk, rfl, hb, hsz, hrow⟩ := hrel
    by_cases hlt : k < len
    · obtain ⟨b, off, spot⟩ := x
      have h0 := hcell k (by omega)
      have hspot : spot = none := by simpa [Addr.add] using World.cell?_spot (hcell 0 (by omega))
      subst hspot
      rw [add_plain] at h0
      have h1 : wr.cell? ⟨b, off + k, none⟩ = some (.int .u8 (zs.getD k 0)) := by rw [hb.cell (p := ⟨b, off + k, none⟩) (World.block_lt_of_cell? w _ h0)]; exact h0
      have h2 := hrow.cell (j := k) (by simp; omega)
      have h3 := hrow.frozen k
      have hfill := take_fill zs k len hlt hl
      have hrow' := hrow.set k (zs.getD k 0)
      rw [hfill] at hrow'
      generalize (zs.take k ++ List.replicate (len - k) 0).getD k 0 = y at h2
      generalize zs.getD k 0 = v at *
      clear hfill h0 hcell hmk hnil
      have HR : Hid (Rw (wr.setCell ⟨w.heap.size, k, none⟩ (.int .u8 v)) w.heap.size .u8 (zs.take (k + 1) ++ List.replicate (len - (k + 1)) 0)) := hrow'
      have HSZ : Hid (wr.heap.size = w.heap.size + 1) := hsz
      clear hrow' hsz
      go_wp2
      go_roundw
      case rel => exact ⟨k + 1, by omega, by go_num, hb.setCell (Nat.le_refl _) _, by simp [World.setCell, HSZ.out], HR.out⟩
      case measure => simp [intOf]; omega
    · have HSZ : Hid (wr.heap.size = w.heap.size + 1) := hsz
      clear hsz
      obtain rfl : k = len := by omega
      go_wp2
      go_ret
      exact ⟨rfl, hb, by simpa using hrow, HSZ.out⟩

theorem byte_of_wf {n : Int} (h : (Lit.int .u8 n).wf = true) : 0 ≤ n ∧ n < 256 := by
  have := bounds_u8 h
  omega

/-- cloneBytes, whatever came in. -/
theorem clone_any (ao : Option Addr) (len cap : Nat) (z : List Int) (w : World) (h32 : len ≤ 32)
    (hrow : (ao = none ∧ len = 0 ∧ cap = 0 ∧ z = []) ∨ ∃ x, ao = some x ∧ len ≤ cap ∧ cap ≤ maxLen ∧ z.length = cap ∧ (∀ i, i < z.length → w.cell? (x.add i) = some (.int .u8 (z.getD i 0))) ∧ ∀ n ∈ z, (Lit.int .u8 n).wf = true) :
    Calls Trym.prog 6 #[.slice ao len cap] w fun e w' => ∃ (ao' : Option Addr) (ks : List Int), e = .returned (.slice ao' len len) ∧ Below w.heap.size w w' ∧ ks.length = len ∧ (∀ x ∈ ks, 0 ≤ x ∧ x < 256) ∧
      (len = 0 ∨ ∃ kb, ao' = some ⟨kb, 0, none⟩ ∧ w.heap.size ≤ kb ∧ Rw w' kb .u8 ks) := by
  rcases hrow with ⟨rfl, rfl, rfl, rfl⟩ | ⟨x, rfl, hlc, _, hz, hcell, hwf⟩
  · refine (clone_nil w).mono ?_
    rintro e w' ⟨rfl, rfl⟩
    exact ⟨none, [], rfl, Below.refl _ _, rfl, by simp, .inl rfl⟩
  · refine (clone_some x len cap z w (by omega) h32 hcell).mono ?_
    rintro e w' ⟨rfl, hb, hr, _⟩
    exact ⟨_, z.take len, rfl, hb, by rw [List.length_take_of_le (by omega)], fun y hy => byte_of_wf (hwf y (List.mem_of_mem_take hy)), .inr ⟨_, rfl, Nat.le_refl _, hr⟩⟩

/-! ### ZZNafSet -/
theorem info27 : (Trym.prog.info? 27).map (fun i => (i.zero, i.size)) = some (some (.agg Z257), 257) := by kernel_rfl
theorem info34 : (Trym.prog.info? 34).map (fun i => (i.zero, i.size)) = some (some (.agg Z257), 257) := by kernel_rfl
theorem Z257_eq : Z257 = ((List.replicate 257 (0 : Int)).map (Value.int .i8)).toArray := by unfold Z257; rw [List.map_replicate, List.toArray_replicate]
theorem zero27 : ∃ Z, (∀ w, (zeroValue 27).run Trym.prog w = .ok (.agg Z) w) ∧ Hid (Z = ((List.replicate 257 (0 : Int)).map (Value.int .i8)).toArray) := ⟨Z257, (zero_of_info info27).1, Z257_eq⟩
theorem zero34 : ∃ Z, (∀ w, (zeroValue 34).run Trym.prog w = .ok (.agg Z) w) ∧ Hid (Z = ((List.replicate 257 (0 : Int)).map (Value.int .i8)).toArray) := ⟨Z257, (zero_of_info info34).1, Z257_eq⟩
theorem size27 : (Trym.prog.info? 27).map (·.size) = some 257 := (zero_of_info info27).2

set_option maxHeartbeats 400000 in
theorem zznaf_any (ao : Option Addr) (n cap w : Nat) (zs : List Int) (wd : World) (hn : n ≤ 32) (hz : zs.length = n) (hw : 2 ≤ w) (hw8 : w ≤ 8)
    (hk : n = 0 ∨ ∃ kb, ao = some ⟨kb, 0, none⟩ ∧ Rw wd kb .u8 zs) (hby : ∀ x ∈ zs, 0 ≤ x ∧ x < 256) :
    Calls Trym.prog 7 #[.slice ao n cap, .int .u64 w] wd fun e w' => ∃ (L : Nat) (d : List Int) (D : Array Value), e = .returned (.tuple #[.agg D, .int .i64 L]) ∧ Hid (D = (d.map (Value.int .i8)).toArray) ∧ Naf (kv zs) w L d ∧ Below wd.heap.size wd w' := by
  obtain ⟨Z1, hz1, he1⟩ := zero27
  obtain ⟨Z2, hz2, he2⟩ := zero34
  have HZ : Hid (zs.length = n) := hz
  clear hz
  go_enter Trym.func7, Trym.ntmps7
  go_wp2_with fail
  refine (set_any (wd.heap.size + 1) ao n cap w zs (List.replicate 257 0) _ (by simp) hn HZ.out hw hw8 ?hk' hby ?hN' (List.length_replicate)).mono ?_
  case hk' =>
    rcases hk with h | ⟨kb, h1, h2⟩
    · exact .inl h
    · exact .inr ⟨kb, h1, by have := h2.lt; omega, (h2.alloc _).alloc _⟩
  case hN' =>
    have := Rw.new (wd.alloc (.cells Z1 27)) .i8 (List.replicate 257 0) 34 Z2 he2.out
    have e1 : (wd.alloc (.cells Z1 27)).heap.size = wd.heap.size + 1 := by simp
    rw [e1] at this
    exact this
  rintro e w1 ⟨L, d, rfl, hnaf, hb, hd⟩
  have hold : Rw w1 wd.heap.size .i8 (List.replicate 257 0) := ((Rw.new wd .i8 (List.replicate 257 0) 27 Z1 he1.out).alloc _).below hb (by omega)
  have hbel : Below wd.heap.size wd w1 := (((Below.refl _ _).alloc (Nat.le_refl _) _).alloc (by simp) _).trans (hb.mono (by omega))
  have hdl := hnaf.len
  obtain ⟨D, hD⟩ : ∃ D : Array Value, Hid (D = (d.map (Value.int .i8)).toArray) := ⟨_, rfl⟩
  have hl : Hid (d.length = (List.replicate 257 (0 : Int)).length) := by unfold Hid; rw [List.length_replicate, hdl]
  have hs27 : Hid ((Trym.prog.info? 27).map (·.size) = some d.length) := by unfold Hid; rw [hdl]; exact size27
  have hs34 : Hid ((Trym.prog.info? 34).map (·.size) = some d.length) := by unfold Hid; rw [hdl]; exact size34
  have hu : Hid (Trym.prog.underlying 34 = some (.array 257 26)) := Trym.underlying34
  clear hdl hb hz1 hz2
  go_wp2_with (first | (refine wpList_load_Rw rfl 34 (.tmp 6) rfl (wd.heap.size + 1) rfl hd hu hs34 D hD ?_) | (refine wpList_store_Rw rfl 27 (.tmp 4) (.tmp 11) rfl wd.heap.size D rfl rfl hold d hD hl hs27 ?_))
  obtain ⟨t, ht⟩ := hold.setRow D d hD.out
  refine bodyPost_ret (v := .tuple #[.agg D, .int .i64 L]) ?_ rfl ⟨L, d, D, rfl, hD, hnaf, below_setRow' hbel (Nat.le_refl _) D⟩
  rw [results_cell_tmp Trym.results7]
  have hDe := hD.out
  have hrun := run_loadVar_row (P := Trym.prog) (w1.setRow wd.heap.size D) wd.heap.size t 27 D (0, 0) _ (by rw [hDe]; rw [hDe] at ht; exact ht) Trym.underlying27 rfl (by rw [hs27.out, hDe]; simp)
  simp [asAddr, hrun]
end Go.Proofs.Qxb6001614aMods.Naf
