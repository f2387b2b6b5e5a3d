/-
  THE CONTRACTS OF '(*keys).id' (18) AND ZZKeysID (14). (An AI prover, Nov 15 2026.)
-/
import Derived.Test.Qxb6003009aModsSmall
import Derived.Test.Qxb6003009aModsShelf
namespace Go.Proofs.Qxb6003009aMods.Keys
open Go.ChangeShapes Go.WideShapes Go.ChangeAt Go.RowKit

theorem Ids.ne {w : World} {B kb : Nat} {names : List ByteArray} {cs : Array Value} {t : TypeId} {fr : Nat × Nat} (h : Ids w B names) (hk : w.heap[kb]? = some (.cells cs t fr)) : kb ≠ B := by
  obtain ⟨D, ⟨es, clock, hb, _⟩, _⟩ := h
  intro e
  subst e
  rw [hk] at hb
  cases hb

theorem own_ne {w : World} {B base n cap : Nat} {ao : Option Addr} {names : List ByteArray} {xs : List Value} (h : w.ownsRow base 9 1 (.slice ao n cap) n xs) (hI : Ids w B names) : ∀ x, ao = some x → x.block ≠ B := by
  intro x hx
  rcases h.2 with ⟨h1, _⟩ | ⟨g, c, cur, h1, _, h2, _⟩
  · cases h1; cases hx
  · injection h1 with h1a
    rw [hx] at h1a
    injection h1a with h1b
    rw [h1b]
    exact hI.ne h2

/-- A slice's row is no block of another element type. -/
theorem own_ty {w : World} {kb base n cap : Nat} {ao : Option Addr} {cs : Array Value} {xs : List Value} (h : w.ownsRow base 9 1 (.slice ao n cap) n xs) (hk : w.heap[kb]? = some (.cells cs 44 (0, 0))) : ∀ x, ao = some x → x.block ≠ kb := by
  intro x hx
  rcases h.2 with ⟨h1, _⟩ | ⟨g, c, cur, h1, _, h2, _⟩
  · cases h1; cases hx
  · injection h1 with h1a
    rw [hx] at h1a
    injection h1a with h1b
    rw [h1b]
    intro e
    simp only at e
    rw [e, hk] at h2
    injection h2 with h2a
    injection h2a with _ h2c
    cases h2c

theorem own_shape {w : World} {base n : Nat} {v : Value} {xs : List Value} (h : w.ownsRow base 9 1 v (n + 1) xs) : ∃ g c, v = .slice (some ⟨g, 0, none⟩) (n + 1) c := by
  rcases h.2 with ⟨_, h1⟩ | ⟨g, c, cur, h1, _⟩
  · omega
  · exact ⟨g, c, h1⟩

theorem grown_cell (w : World) (b j : Nat) (v : Value) : w.grownBy (w.setCell ⟨b, j, none⟩ v) (some b) :=
  ⟨rfl, rfl, rfl, by simp [World.setCell], fun k _ hne => heap_setCell_other w ⟨b, j, none⟩ k v (by simpa using hne)⟩

theorem id_found (kb B j : Nat) (names : List ByteArray) (w : World) (h0 : w.cell? ⟨kb, 0, none⟩ = some (.map (some B))) (hI : Ids w B names) (hj : j < names.length) (hs : (names.getD j ByteArray.empty).size ≤ maxLen) :
    Calls Trym.prog 18 #[.pointer (some ⟨kb, 0, none⟩), .string (names.getD j ByteArray.empty)] w fun e w' => e = .returned (.int .u64 j) ∧ w' = w := by
  have hl := hI.hit hj hs
  generalize names.getD j ByteArray.empty = s at *
  go_enter Trym.func18, Trym.ntmps18
  go_wp2
  go_ret
  exact ⟨rfl, rfl⟩

set_option maxHeartbeats 1000000 in
theorem id_new (kb B base n cap : Nat) (ao : Option Addr) (names : List ByteArray) (s : ByteArray) (w : World) (hk : w.heap[kb]? = some (.cells #[.map (some B), .slice ao n cap] 44 (0, 0))) (hI : Ids w B names) (hn : names.length = n)
    (hs : s.size ≤ 1048576) (hmem : s ∉ names) (hl : n ≤ 65536) (hbase : base ≤ w.heap.size) (hown : w.ownsRow base 9 1 (.slice ao n cap) n (names.map Value.string)) :
    Calls Trym.prog 18 #[.pointer (some ⟨kb, 0, none⟩), .string s] w fun e w' => e = .returned (.int .u64 n) ∧ ∃ g c, w'.heap[kb]? = some (.cells #[.map (some B), .slice (some ⟨g, 0, none⟩) (n + 1) c] 44 (0, 0)) ∧
      Ids w' B (names ++ [s]) ∧ w'.ownsRow base 9 1 (.slice (some ⟨g, 0, none⟩) (n + 1) c) (n + 1) ((names ++ [s]).map Value.string) ∧ w.heap.size ≤ w'.heap.size ∧ w'.os = w.os ∧ w'.tape = w.tape ∧ w'.output = w.output ∧
      ∀ k, k < w.heap.size → k ≠ kb → k ≠ B → (∀ x, ao = some x → k ≠ x.block) → w'.heap[k]? = w.heap[k]? := by
  have hsm : s.size ≤ maxLen := by unfold maxLen; omega
  have hl0 := hI.miss (t := s) hsm hmem
  have hkB : kb ≠ B := hI.ne hk
  have c0 : w.cell? ⟨kb, 0, none⟩ = some (.map (some B)) := by rw [cell_of_row w kb 0 _ 44 _ hk]; rfl
  have hne := fun wx => run_eql_map_nil (P := Trym.prog) wx 33 9 34 (some B) Trym.underlying33
  obtain ⟨i0, hi, hz0, hz1, hz2⟩ := info_parts info9
  have HN := hide hn
  have HOWN := hide hown
  have HI := hide hI
  have HK := hide hk
  clear hn hown hI hk
  go_enter Trym.func18, Trym.ntmps18
  go_wp2_with fail
  refine (strClone s _ (by omega)).mono ?_
  rintro e w1 ⟨rfl, hb1⟩
  have hI1 := (unhide HI).below hb1
  have hkl : kb < w.heap.size := (Array.getElem?_eq_some_iff.1 (unhide HK)).1
  have hk1 : w1.heap[kb]? = some (.cells #[.map (some B), .slice ao n cap] 44 (0, 0)) := (hb1.block kb hkl).trans (unhide HK)
  have hown1 : w1.ownsRow base 9 1 (.slice ao n cap) n (names.map Value.string) := (unhide HOWN).kept (grown_below hb1 none) (by cases ao <;> simp [Value.ownBlock])
  obtain ⟨w2, hst, hI2, hg2, hsz2⟩ := hI1.store hsm hmem (by rw [unhide HN]; omega)
  rw [unhide HN] at hst
  have hlt1 : kb < w1.heap.size := Nat.lt_of_lt_of_le hkl hb1.size
  have hk2 : w2.heap[kb]? = some (.cells #[.map (some B), .slice ao n cap] 44 (0, 0)) := (hg2.block kb hlt1 (by simpa using hkB)).trans hk1
  have hBrow : ∀ x, ao = some x → x.block ≠ B := own_ne hown1 hI1
  have hown2 : w2.ownsRow base 9 1 (.slice ao n cap) n (names.map Value.string) := hown1.kept hg2 (by
    cases ao with
    | none => simp [Value.ownBlock]
    | some x => right; simp [Value.ownBlock]; exact hBrow x rfl)
  have d0 : w1.cell? ⟨kb, 0, none⟩ = some (.map (some B)) := by rw [cell_of_row w1 kb 0 _ 44 _ hk1]; rfl
  have d1 : w1.cell? ⟨kb, 1, none⟩ = some (.slice ao n cap) := by rw [cell_of_row w1 kb 1 _ 44 _ hk1]; rfl
  have e1 : w2.cell? ⟨kb, 1, none⟩ = some (.slice ao n cap) := by rw [cell_of_row w2 kb 1 _ 44 _ hk2]; rfl
  have HI2 := hide hI2
  have HK2 := hide hk2
  have HB1 := hide hb1
  have HG2 := hide hg2
  have HSZ2 := hide hsz2
  clear hI2 hk2 hb1 hg2 hsz2 hk1 hI1 hown1 c0 hl0
  go_wp2_with (first | (at_builtin; refine wpList_append_own _ rfl _ _ 29 rfl base 9 i0 (.string ByteArray.empty) 1 16 Trym.underlying29 hi hz0 hz1 hz2 rfl (by decide) _ _ _ rfl (hown2.alloc _) ⟨w2.heap.size, 0, none⟩ 1 1 [.string s] rfl rfl ?c1 ?c2 ?c3 ?c4 ?c5 ?_))
  case c1 => exact cell_one_new _ _ _
  case c2 => intro u hu; simp at hu; subst hu; rfl
  case c3 => unfold maxLen; omega
  case c4 => omega
  case c5 => have := (unhide HB1).size; have := unhide HSZ2; simp; omega
  intro v' w3 hown3 hgrow3 _
  obtain ⟨g, c, hv⟩ := own_shape hown3
  subst hv
  have hrk : ∀ x, ao = some x → x.block ≠ kb := own_ty hown2 (unhide HK2)
  have hl2 : kb < w2.heap.size := by rw [unhide HSZ2]; exact hlt1
  have hk3 : w3.heap[kb]? = some (.cells #[.map (some B), .slice ao n cap] 44 (0, 0)) := by
    rw [hgrow3.block kb (by simp; omega) (by
      cases ao with
      | none => simp [Value.ownBlock]
      | some x => simp [Value.ownBlock]; exact fun e => hrk x rfl e.symm)]
    rw [Below.heap_alloc w2 _ kb hl2]
    exact unhide HK2
  have hI3 : Ids w3 B (names ++ [s]) := ((unhide HI2).grown (World.grownBy_alloc w2 _ none) (by simp)).grown hgrow3 (by
    cases ao with
    | none => simp [Value.ownBlock]
    | some x => simp [Value.ownBlock]; exact fun e => hBrow x rfl e.symm)
  have hgk : g ≠ kb := own_ty hown3 hk3 ⟨g, 0, none⟩ rfl
  have f1 : w3.cell? ⟨kb, 1, none⟩ = some (.slice ao n cap) := by rw [cell_of_row w3 kb 1 _ 44 _ hk3]; rfl
  have f2 : w3.frozen? ⟨kb, 1, none⟩ = false := frozen_of_row w3 kb 1 _ 44 hk3
  have hsz3 := hgrow3.size
  have HI3 := hide hI3
  have HK3 := hide hk3
  have HG3 := hide hgrow3
  have HOWN3 := hide hown3
  have HSZ3 := hide hsz3
  clear hI3 hk3 hgrow3 hown3 hown2 hsz3 e1
  go_wp2
  go_ret
  refine ⟨rfl, g, c, ?_, ?_, ?_, ?_, ?_, ?_, ?_, ?_⟩
  · rw [heap_setCell_same w3 kb 1 _ 44 _ (unhide HK3)]; rfl
  · exact (unhide HI3).grown (grown_cell w3 kb 1 _) (by simpa using fun e => hkB e.symm)
  · have := (unhide HOWN3).kept (grown_cell w3 kb 1 (.slice (some ⟨g, 0, none⟩) (n + 1) c)) (by right; simp [Value.ownBlock]; exact hgk)
    simpa using this
  · have h1 := (unhide HB1).size
    have h2 := unhide HSZ2
    have h3 := unhide HSZ3
    simp [World.setCell] at h3 ⊢
    omega
  · show w3.os = w.os
    rw [(unhide HG3).os]
    exact (unhide HG2).os.trans (unhide HB1).os
  · show w3.tape = w.tape
    rw [(unhide HG3).tape]
    exact (unhide HG2).tape.trans (unhide HB1).tape
  · show w3.output = w.output
    rw [(unhide HG3).output]
    exact (unhide HG2).output.trans (unhide HB1).output
  · intro k hk1 hk2 hk3 hk4
    have h1 := (unhide HB1).size
    have h2 := unhide HSZ2
    rw [heap_setCell_other w3 ⟨kb, 1, none⟩ k _ hk2, (unhide HG3).block k (by simp; omega) (by
      cases ao with
      | none => simp [Value.ownBlock]
      | some x => simp [Value.ownBlock]; exact hk4 x rfl), Below.heap_alloc w2 _ k (by omega), (unhide HG2).block k (by omega) (by simpa using hk3), (unhide HB1).block k hk1]

set_option maxHeartbeats 1000000 in
theorem id_nil (kb base : Nat) (s : ByteArray) (w : World) (hk : w.heap[kb]? = some (.cells #[.map none, .slice none 0 0] 44 (0, 0))) (hs : s.size ≤ 1048576) (hbase : base ≤ w.heap.size) :
    Calls Trym.prog 18 #[.pointer (some ⟨kb, 0, none⟩), .string s] w fun e w' => e = .returned (.int .u64 0) ∧ ∃ B g c, w'.heap[kb]? = some (.cells #[.map (some B), .slice (some ⟨g, 0, none⟩) 1 c] 44 (0, 0)) ∧ base ≤ B ∧
      Ids w' B [s] ∧ w'.ownsRow base 9 1 (.slice (some ⟨g, 0, none⟩) 1 c) 1 [Value.string s] ∧ w.heap.size ≤ w'.heap.size ∧ w'.os = w.os ∧ w'.tape = w.tape ∧ w'.output = w.output ∧
      ∀ k, k < w.heap.size → k ≠ kb → w'.heap[k]? = w.heap[k]? := by
  have hsm : s.size ≤ maxLen := by unfold maxLen; omega
  have hl0 : ∀ wx : World, (Instr.lookup 33 (.map none) (.string s) true).run Trym.prog wx = .ok (.tuple #[.int .u64 0, .bool false]) wx := fun wx => by
    have := Maps.look_nil (w := wx) true law Trym.underlying33 (zero34 wx) (Go.WideMaps.keyOf_string_mk Trym.underlying9 hsm)
    simpa using this
  have c0 : w.cell? ⟨kb, 0, none⟩ = some (.map none) := by rw [cell_of_row w kb 0 _ 44 _ hk]; rfl
  have c0f : w.frozen? ⟨kb, 0, none⟩ = false := frozen_of_row w kb 0 _ 44 hk
  have hne := fun wx => run_eql_map_nil (P := Trym.prog) wx 33 9 34 none Trym.underlying33
  have hmm := @run_makeMap Trym.prog
  obtain ⟨i0, hi, hz0, hz1, hz2⟩ := info_parts info9
  have hkl : kb < w.heap.size := (Array.getElem?_eq_some_iff.1 hk).1
  have HK := hide hk
  clear hk
  go_enter Trym.func18, Trym.ntmps18
  go_wp2_with fail
  have sA : (w.setCell ⟨kb, 0, none⟩ (.map (some w.heap.size))).heap.size = w.heap.size := by simp [World.setCell]
  have hkA : ((w.setCell ⟨kb, 0, none⟩ (.map (some w.heap.size))).alloc (.map #[] 0)).heap[kb]? = some (.cells #[.map (some w.heap.size), .slice none 0 0] 44 (0, 0)) := by
    rw [Below.heap_alloc _ _ kb (by omega), heap_setCell_same w kb 0 _ 44 _ (unhide HK)]; rfl
  have hIA : Ids ((w.setCell ⟨kb, 0, none⟩ (.map (some w.heap.size))).alloc (.map #[] 0)) w.heap.size [] := by
    have := Ids.made (w.setCell ⟨kb, 0, none⟩ (.map (some w.heap.size)))
    rw [sA] at this
    exact this
  have fA : ∀ k, k < w.heap.size → k ≠ kb → ((w.setCell ⟨kb, 0, none⟩ (.map (some w.heap.size))).alloc (.map #[] 0)).heap[k]? = w.heap[k]? := fun k h1 h2 => by
    rw [Below.heap_alloc _ _ k (by omega), heap_setCell_other w ⟨kb, 0, none⟩ k _ h2]
  have oA : ((w.setCell ⟨kb, 0, none⟩ (.map (some w.heap.size))).alloc (.map #[] 0)).os = w.os ∧ ((w.setCell ⟨kb, 0, none⟩ (.map (some w.heap.size))).alloc (.map #[] 0)).tape = w.tape ∧ ((w.setCell ⟨kb, 0, none⟩ (.map (some w.heap.size))).alloc (.map #[] 0)).output = w.output := ⟨rfl, rfl, rfl⟩
  have zA : ((w.setCell ⟨kb, 0, none⟩ (.map (some w.heap.size))).alloc (.map #[] 0)).heap.size = w.heap.size + 1 := by simp [sA]
  generalize (w.setCell ⟨kb, 0, none⟩ (.map (some w.heap.size))).alloc (.map #[] 0) = wA at *
  generalize hB : w.heap.size = B at *
  have hkB : kb ≠ B := by omega
  have HA := hide oA
  have HFA := hide fA
  have HZA := hide zA
  have HB := hide hB
  clear oA fA zA hB sA
  refine (strClone s _ (by omega)).mono ?_
  rintro e w1 ⟨rfl, hb1⟩
  have hI1 := hIA.below hb1
  have hkl1 : kb < wA.heap.size := (Array.getElem?_eq_some_iff.1 hkA).1
  have hk1 : w1.heap[kb]? = some (.cells #[.map (some B), .slice none 0 0] 44 (0, 0)) := (hb1.block kb hkl1).trans hkA
  obtain ⟨w2, hst, hI2, hg2, hsz2⟩ := hI1.store hsm (by simp) (by simp)
  rw [show ((([] : List ByteArray).length : Nat) : Int) = 0 from rfl] at hst
  have hlt1 : kb < w1.heap.size := Nat.lt_of_lt_of_le hkl1 hb1.size
  have hk2 : w2.heap[kb]? = some (.cells #[.map (some B), .slice none 0 0] 44 (0, 0)) := (hg2.block kb hlt1 (by simpa using hkB)).trans hk1
  have hown2 : w2.ownsRow base 9 1 (.slice none 0 0) 0 [] := World.ownsRow_nil _ _ _ _
  have d0 : w1.cell? ⟨kb, 0, none⟩ = some (.map (some B)) := by rw [cell_of_row w1 kb 0 _ 44 _ hk1]; rfl
  have d1 : w1.cell? ⟨kb, 1, none⟩ = some (.slice none 0 0) := by rw [cell_of_row w1 kb 1 _ 44 _ hk1]; rfl
  have e1 : w2.cell? ⟨kb, 1, none⟩ = some (.slice none 0 0) := by rw [cell_of_row w2 kb 1 _ 44 _ hk2]; rfl
  have HI2 := hide hI2
  have HK2 := hide hk2
  have HB1 := hide hb1
  have HG2 := hide hg2
  have HSZ2 := hide hsz2
  clear hI2 hk2 hb1 hg2 hsz2 hk1 hI1 c0 hl0 hIA hkA c0f hmm
  go_wp2_with (first | (at_builtin; refine wpList_append_own _ rfl _ _ 29 rfl base 9 i0 (.string ByteArray.empty) 1 16 Trym.underlying29 hi hz0 hz1 hz2 rfl (by decide) _ _ _ rfl (hown2.alloc _) ⟨w2.heap.size, 0, none⟩ 1 1 [.string s] rfl rfl ?c1 ?c2 ?c3 ?c4 ?c5 ?_))
  case c1 => exact cell_one_new _ _ _
  case c2 => intro u hu; simp at hu; subst hu; rfl
  case c3 => unfold maxLen; omega
  case c4 => omega
  case c5 => have := (unhide HB1).size; have := unhide HSZ2; have := unhide HZA; simp; omega
  intro v' w3 hown3 hgrow3 _
  have hown3 : w3.ownsRow base 9 1 v' 1 [Value.string s] := hown3
  obtain ⟨g, c, hv⟩ : ∃ g c, v' = .slice (some ⟨g, 0, none⟩) 1 c := own_shape (n := 0) hown3
  subst hv
  have hl2 : kb < w2.heap.size := by rw [unhide HSZ2]; exact hlt1
  have hk3 : w3.heap[kb]? = some (.cells #[.map (some B), .slice none 0 0] 44 (0, 0)) := by
    rw [hgrow3.block kb (by simp; omega) (by simp [Value.ownBlock])]
    rw [Below.heap_alloc w2 _ kb hl2]
    exact unhide HK2
  have hI3 : Ids w3 B [s] := ((unhide HI2).grown (World.grownBy_alloc w2 _ none) (by simp)).grown hgrow3 (by simp [Value.ownBlock])
  have hgk : g ≠ kb := own_ty hown3 hk3 ⟨g, 0, none⟩ rfl
  have f1 : w3.cell? ⟨kb, 1, none⟩ = some (.slice none 0 0) := by rw [cell_of_row w3 kb 1 _ 44 _ hk3]; rfl
  have f2 : w3.frozen? ⟨kb, 1, none⟩ = false := frozen_of_row w3 kb 1 _ 44 hk3
  have hsz3 := hgrow3.size
  have HI3 := hide hI3
  have HK3 := hide hk3
  have HG3 := hide hgrow3
  have HOWN3 := hide hown3
  have HSZ3 := hide hsz3
  clear hI3 hk3 hgrow3 hown3 hown2 hsz3 e1
  go_wp2
  go_ret
  have hBB := unhide HB
  refine ⟨rfl, B, g, c, ?_, by omega, ?_, ?_, ?_, ?_, ?_, ?_, ?_⟩
  · rw [heap_setCell_same w3 kb 1 _ 44 _ (unhide HK3)]; rfl
  · exact (unhide HI3).grown (grown_cell w3 kb 1 _) (by simpa using fun e => hkB e.symm)
  · exact (unhide HOWN3).kept (grown_cell w3 kb 1 (.slice (some ⟨g, 0, none⟩) 1 c)) (by right; simp [Value.ownBlock]; exact hgk)
  · have h1 := (unhide HB1).size
    have h2 := unhide HSZ2
    have h3 := unhide HSZ3
    have h4 := unhide HZA
    simp [World.setCell] at h3 ⊢
    omega
  · show w3.os = w.os
    rw [(unhide HG3).os]
    exact ((unhide HG2).os.trans (unhide HB1).os).trans (unhide HA).1
  · show w3.tape = w.tape
    rw [(unhide HG3).tape]
    exact ((unhide HG2).tape.trans (unhide HB1).tape).trans (unhide HA).2.1
  · show w3.output = w.output
    rw [(unhide HG3).output]
    exact ((unhide HG2).output.trans (unhide HB1).output).trans (unhide HA).2.2
  · intro k hk1 hk2
    have h1 := (unhide HB1).size
    have h2 := unhide HSZ2
    have h4 := unhide HZA
    rw [heap_setCell_other w3 ⟨kb, 1, none⟩ k _ hk2, (unhide HG3).block k (by simp; omega) (by simp [Value.ownBlock]), Below.heap_alloc w2 _ k (by omega), (unhide HG2).block k (by omega) (by simp; omega), (unhide HB1).block k (by omega)]
    exact unhide HFA k (by omega) hk2

/-! ### ZZKeysID -/
theorem zz_found (B j n cap : Nat) (ao : Option Addr) (names : List ByteArray) (w : World) (hI : Ids w B names) (hj : j < names.length) (hs : (names.getD j ByteArray.empty).size ≤ maxLen) :
    Calls Trym.prog 14 #[.map (some B), .slice ao n cap, .string (names.getD j ByteArray.empty)] w fun e w' => e = .returned (.tuple #[.map (some B), .slice ao n cap, .int .u64 j]) ∧ Below w.heap.size w w' := by
  have hid := fun (wx : World) (h0 : wx.cell? ⟨w.heap.size, 0, none⟩ = some (.map (some B))) (hx : Ids wx B names) => id_found w.heap.size B j names wx h0 hx hj hs
  have HID := hide hid
  clear hid
  generalize names.getD j ByteArray.empty = s at *
  go_enter Trym.func14, Trym.ntmps14
  go_wp2_with fail
  refine (unhide HID _ (by simp) ((hI.grown (World.grownBy_alloc w _ none) (by simp)))).mono ?_
  rintro e w' ⟨rfl, hw⟩
  subst hw
  go_wp2
  go_quiet (fail)
  go_wp2
  go_ret3
  exact ⟨rfl, below_drewN ((Below.refl _ _).alloc (Nat.le_refl _) _) _⟩

set_option maxHeartbeats 400000 in
theorem zz_new (B base n cap : Nat) (ao : Option Addr) (names : List ByteArray) (s : ByteArray) (w : World) (hI : Ids w B names) (hn : names.length = n)
    (hs : s.size ≤ 1048576) (hmem : s ∉ names) (hl : n ≤ 65536) (hbase : base ≤ w.heap.size) (hown : w.ownsRow base 9 1 (.slice ao n cap) n (names.map Value.string)) :
    Calls Trym.prog 14 #[.map (some B), .slice ao n cap, .string s] w fun e w' => ∃ g c, e = .returned (.tuple #[.map (some B), .slice (some ⟨g, 0, none⟩) (n + 1) c, .int .u64 n]) ∧
      Ids w' B (names ++ [s]) ∧ w'.ownsRow base 9 1 (.slice (some ⟨g, 0, none⟩) (n + 1) c) (n + 1) ((names ++ [s]).map Value.string) ∧ w.heap.size ≤ w'.heap.size ∧ w'.os = w.os ∧ w'.tape = w.tape ∧ w'.output = w.output ∧
      ∀ k, k < w.heap.size → k ≠ B → (∀ x, ao = some x → k ≠ x.block) → w'.heap[k]? = w.heap[k]? := by
  have HI := hide hI
  have HN := hide hn
  have HOWN := hide hown
  clear hI hn hown
  go_enter Trym.func14, Trym.ntmps14
  go_wp2_with fail
  refine (id_new w.heap.size B base n cap ao names s _ (heap_alloc_new w _) ((unhide HI).grown (World.grownBy_alloc w _ none) (by simp)) (unhide HN) hs hmem hl (by simp; omega) ((unhide HOWN).alloc _)).mono ?_
  rintro e w1 ⟨rfl, g, c, hk1, hI1, hown1, hz1, ho1, ht1, hp1, hf1⟩
  have c0 : w1.cell? ⟨w.heap.size, 0, none⟩ = some (.map (some B)) := by rw [cell_of_row w1 w.heap.size 0 _ 44 _ hk1]; rfl
  have c1 : w1.cell? ⟨w.heap.size, 1, none⟩ = some (.slice (some ⟨g, 0, none⟩) (n + 1) c) := by rw [cell_of_row w1 w.heap.size 1 _ 44 _ hk1]; rfl
  have R := hide (And.intro hI1 (And.intro hown1 (And.intro hz1 (And.intro ho1 (And.intro ht1 (And.intro hp1 hf1))))))
  clear hk1 hI1 hown1 hz1 ho1 ht1 hp1 hf1
  go_wp2
  go_quiet (fail)
  go_wp2
  go_ret3
  obtain ⟨hI1, hown1, hz1, ho1, ht1, hp1, hf1⟩ := unhide R
  refine ⟨g, c, rfl, ?_, ?_, ?_, ho1, ht1, hp1, ?_⟩
  · exact hI1.grown (grown_below (below_drewN (Below.refl _ _) _) none) (by simp)
  · exact hown1.kept (grown_below (below_drewN (Below.refl _ _) _) none) (by simp [Value.ownBlock])
  · simp at hz1 ⊢; omega
  · intro k h1 h2 h3
    show w1.heap[k]? = w.heap[k]?
    rw [hf1 k (by simp; omega) (by omega) h2 h3, Below.heap_alloc w _ k h1]

set_option maxHeartbeats 400000 in
theorem zz_nil (base : Nat) (s : ByteArray) (w : World) (hs : s.size ≤ 1048576) (hbase : base ≤ w.heap.size) :
    Calls Trym.prog 14 #[.map none, .slice none 0 0, .string s] w fun e w' => ∃ B g c, e = .returned (.tuple #[.map (some B), .slice (some ⟨g, 0, none⟩) 1 c, .int .u64 0]) ∧ base ≤ B ∧
      Ids w' B [s] ∧ w'.ownsRow base 9 1 (.slice (some ⟨g, 0, none⟩) 1 c) 1 [Value.string s] ∧ w.heap.size ≤ w'.heap.size ∧ w'.os = w.os ∧ w'.tape = w.tape ∧ w'.output = w.output ∧
      ∀ k, k < w.heap.size → w'.heap[k]? = w.heap[k]? := by
  go_enter Trym.func14, Trym.ntmps14
  go_wp2_with fail
  refine (id_nil w.heap.size base s _ (heap_alloc_new w _) hs (by simp; omega)).mono ?_
  rintro e w1 ⟨rfl, B, g, c, hk1, hB1, hI1, hown1, hz1, ho1, ht1, hp1, hf1⟩
  have c0 : w1.cell? ⟨w.heap.size, 0, none⟩ = some (.map (some B)) := by rw [cell_of_row w1 w.heap.size 0 _ 44 _ hk1]; rfl
  have c1 : w1.cell? ⟨w.heap.size, 1, none⟩ = some (.slice (some ⟨g, 0, none⟩) 1 c) := by rw [cell_of_row w1 w.heap.size 1 _ 44 _ hk1]; rfl
  have R := hide (And.intro hI1 (And.intro hown1 (And.intro hz1 (And.intro ho1 (And.intro ht1 (And.intro hp1 hf1))))))
  clear hk1 hI1 hown1 hz1 ho1 ht1 hp1 hf1
  go_wp2
  go_quiet (fail)
  go_wp2
  go_ret3
  obtain ⟨hI1, hown1, hz1, ho1, ht1, hp1, hf1⟩ := unhide R
  refine ⟨B, g, c, rfl, hB1, ?_, ?_, ?_, ho1, ht1, hp1, ?_⟩
  · exact hI1.grown (grown_below (below_drewN (Below.refl _ _) _) none) (by simp)
  · exact hown1.kept (grown_below (below_drewN (Below.refl _ _) _) none) (by simp [Value.ownBlock])
  · simp at hz1 ⊢; omega
  · intro k h1
    show w1.heap[k]? = w.heap[k]?
    rw [hf1 k (by simp; omega) (by omega), Below.heap_alloc w _ k h1]
end Go.Proofs.Qxb6003009aMods.Keys
