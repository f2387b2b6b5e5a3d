/-
  THE COLUMNS: a slice of slices of the call's own that is appended to, column by column ('Cl'); a step law for 'cols[j] = append(cols[j], x)' in a region that draws its order; cloneRuns whatever came in; a row of pairs made. (An AI prover, Nov 15 2026.)
-/
import Derived.Test.Qxb6600036aModsTwo
import Derived.Deep.RegionLaw
import Derived.Maps.AppendAt
namespace Go.Proofs.Qxb6600036aMods.Hold
open Go.ChangeShapes Go.WideShapes Go.ChangeAt Go.RowKit Go.Proofs.Qxb6600036aMods.Plain

/-- append onto a slice of the call's own, AS ONE STEP OF A REGION THAT DRAWS ITS ORDER (over the kit's 'run_append_own_at'). -/
theorem step_append_at {P : Program} {ops : Array Oper} {o : Oper} {a : Act} {w : World} {K : Act → World → Prop} {Q : Exit → Act → World → Prop} {E : Prop}
    (hg : o.guard = none) (s x : Operand) (t : TypeId) (hop : o.op = Op.call { callee := Callee.builtin Builtin.append, args := #[s, x], argTypes := #[t, t] })
    (base : Nat) (e : TypeId) (i : TypeInfo) (z : Value) (size bytes : Nat) (ht : P.underlying t = some (.slice e)) (hi : P.info? e = some i) (hz : i.zero = some z)
    (hsize : i.size = size) (hby : i.bytes = bytes) (hzs : z.cells.size = size) (hsz : 0 < size)
    (v : Value) (n : Nat) (xs : List Value) (hs : a.eval s = v) (hown : w.ownsRow base e size v n xs)
    (ad : Addr) (m c : Nat) (news : List Value) (hx : a.eval x = .slice (some ad) m c) (hl : news.length = m * size) (hnews : ∀ j u, news[j]? = some u → w.cell? (ad.add j) = some u) (h1 : ∀ u ∈ news, u.oneCell' = true)
    (h63 : n + m ≤ maxLen) (hbytes : (n + m) * bytes ≤ 140737488355328) (hbase : base ≤ w.heap.size)
    (hK : ∀ v' w', w'.ownsRow base e size v' (n + m) (xs ++ news) → w.grownBy w' v.ownBlock → (v'.ownBlock = v.ownBlock ∨ v'.ownBlock = some w.heap.size) → K (a.put o.dst v') w') :
    if Region.wanted o (yielded ops a.tmps) = true then Oper.wp P o a w K Q else E := by
  have hw : Region.wanted o (yielded ops a.tmps) = true := by simp [Region.wanted, hg]
  rw [if_pos hw]
  obtain ⟨v', w', hr, h2, h3, _, h5⟩ := run_append_own_at (P := P) w base t o.type e i z size bytes ht hi hz hsize hby hzs hsz v n xs hown ad m c news hl hnews h1 h63 hbytes hbase
  unfold Oper.wp
  simp [execOp, hop, resolve, invoke, builtin, hs, hx, hr, Result.andThen]
  exact hK v' w' h2 h3 h5

/-- The columns cs: block C is a row of slices, each owning its own row from 'base' on. -/
def Cl (w : World) (C base : Nat) (cs : List (List Nat)) : Prop :=
  ∃ (vs : List Value) (t : TypeId), w.heap[C]? = some (.cells vs.toArray t (0, 0)) ∧ C < base ∧ base ≤ w.heap.size ∧ vs.length = cs.length ∧
    (∀ j, j < cs.length → w.ownsRow base 26 1 (vs.getD j nilV) (cs.getD j []).length ((cs.getD j []).map (Value.float .f64))) ∧
    (∀ i j, i < cs.length → j < cs.length → i ≠ j → (vs.getD i nilV).ownBlock = none ∨ (vs.getD i nilV).ownBlock ≠ (vs.getD j nilV).ownBlock)

theorem own_form {w : World} {base n : Nat} {v : Value} {xs : List Value} (h : w.ownsRow base 26 1 v n xs) : ∃ ao cap, v = .slice ao n cap := by
  rcases h.2 with ⟨h1, h2⟩ | ⟨g, cap, _, h1, _⟩
  · exact ⟨none, 0, by rw [h1, h2]⟩
  · exact ⟨_, cap, h1⟩

theorem own_block {w : World} {base n g : Nat} {v : Value} {xs : List Value} (h : w.ownsRow base 26 1 v n xs) (hg : v.ownBlock = some g) : base ≤ g ∧ g < w.heap.size := by
  rcases h.2 with ⟨h1, _⟩ | ⟨g', cap, cur, h1, h2, h3, _⟩
  · rw [h1] at hg; cases hg
  · rw [h1] at hg
    simp [Value.ownBlock] at hg
    subst hg
    exact ⟨h2, (Array.getElem?_eq_some_iff.1 h3).1⟩

/-- What column j holds, for a reader. -/
theorem own_rd {w : World} {base n cap : Nat} {ao : Option Addr} {xs : List Nat} (h : w.ownsRow base 26 1 (.slice ao n cap) n (xs.map (Value.float .f64))) (hn : xs.length = n) : Rd w ao n xs := by
  rcases h.2 with ⟨_, h2⟩ | ⟨g, c, cur, h1, _, h3, _, _, _, h6⟩
  · exact .inl h2
  · injection h1 with h1a
    refine .inr ⟨g, 0, h1a, fun i hi => ?_⟩
    rw [Nat.zero_add, cell_of_row w g i _ 26 _ h3]
    have h7 : (cur.toList.take (n * 1))[i]? = cur.toList[i]? := by rw [List.getElem?_take, if_pos (by omega)]
    rw [h6] at h7
    rw [← Array.getElem?_toList, ← h7]
    simp [List.getD_eq_getElem?_getD, List.getElem?_eq_getElem (show i < xs.length by omega)]

theorem getD_set_same (l : List (List Nat)) (j : Nat) (r : List Nat) (h : j < l.length) : (l.set j r).getD j [] = r := by simp [List.getD_eq_getElem?_getD, h]
theorem getD_set_other (l : List (List Nat)) (i j : Nat) (r : List Nat) (h : i ≠ j) : (l.set j r).getD i [] = l.getD i [] := by simp [List.getD_eq_getElem?_getD, Ne.symm h]
theorem getV_set_same (l : List Value) (j : Nat) (r : Value) (h : j < l.length) : (l.set j r).getD j nilV = r := by simp [List.getD_eq_getElem?_getD, h]
theorem getV_set_other (l : List Value) (i j : Nat) (r : Value) (h : i ≠ j) : (l.set j r).getD i nilV = l.getD i nilV := by simp [List.getD_eq_getElem?_getD, Ne.symm h]

theorem grown_cell (w : World) (b j : Nat) (v : Value) : w.grownBy (w.setCell ⟨b, j, none⟩ v) (some b) :=
  ⟨rfl, rfl, rfl, by simp [World.setCell], fun k _ hne => heap_setCell_other w ⟨b, j, none⟩ k v (by simpa using hne)⟩

/-- One column's slice, as it lies; and what an append onto it, stored back, leaves. -/
theorem Cl.cell {w : World} {C base : Nat} {cs : List (List Nat)} (h : Cl w C base cs) {j : Nat} (hj : j < cs.length) :
    ∃ ao cap, w.cell? ⟨C, j, none⟩ = some (.slice ao (cs.getD j []).length cap) ∧ w.ownsRow base 26 1 (.slice ao (cs.getD j []).length cap) (cs.getD j []).length ((cs.getD j []).map (Value.float .f64)) ∧
      (∀ (x : Nat) (w1 w2 : World) (v' : Value), w.grownBy w1 none → w2.ownsRow base 26 1 v' ((cs.getD j []).length + 1) ((cs.getD j []).map (Value.float .f64) ++ [.float .f64 x]) →
        w1.grownBy w2 (Value.slice ao (cs.getD j []).length cap).ownBlock → (v'.ownBlock = (Value.slice ao (cs.getD j []).length cap).ownBlock ∨ v'.ownBlock = some w1.heap.size) →
        w2.cell? ⟨C, j, none⟩ = some (.slice ao (cs.getD j []).length cap) ∧ w2.frozen? ⟨C, j, none⟩ = false ∧ Below C w (w2.setCell ⟨C, j, none⟩ v') ∧ Cl (w2.setCell ⟨C, j, none⟩ v') C base (cs.set j (cs.getD j [] ++ [x]))) := by
  obtain ⟨vs, t, h1, h2, h2', h3, h4, h5⟩ := h
  obtain ⟨ao, cap, hv⟩ := own_form (h4 j hj)
  have hcell : w.cell? ⟨C, j, none⟩ = some (vs.getD j nilV) := by
    rw [cell_of_row w C j _ t _ h1]
    simp [List.getD_eq_getElem?_getD, h3, hj]
  refine ⟨ao, cap, by rw [hcell, hv], by rw [← hv]; exact h4 j hj, ?_⟩
  intro x w1 w2 v' hg1 hown hgr hloc
  rw [← hv] at hgr hloc ⊢
  have hs1 := hg1.size
  have hs2 := hgr.size
  have hCl : C < w.heap.size := (Array.getElem?_eq_some_iff.1 h1).1
  have hCne : ∀ i, i < cs.length → some C ≠ (vs.getD i nilV).ownBlock := fun i hi e => by
    have := own_block (h4 i hi) e.symm
    omega
  have hC2 : w2.heap[C]? = some (.cells vs.toArray t (0, 0)) := by
    rw [hgr.block C (by omega) (hCne j hj), hg1.block C hCl (by simp)]
    exact h1
  have hvC : v'.ownBlock ≠ some C := fun e => by
    have := own_block hown e
    omega
  refine ⟨?_, frozen_of_row w2 C j _ t hC2, ?_, vs.set j v', t, ?_, h2, ?_, by simp [h3], ?_, ?_⟩
  · rw [cell_of_row w2 C j _ t _ hC2]
    simp [List.getD_eq_getElem?_getD, h3, hj]
  · refine ⟨hgr.os.trans hg1.os, hgr.tape.trans hg1.tape, hgr.output.trans hg1.output, by simp [World.setCell]; omega, fun k hk => ?_⟩
    rw [heap_setCell_other w2 ⟨C, j, none⟩ k v' (by simp; omega), hgr.block k (by omega) (fun e => by have := own_block (h4 j hj) e.symm; omega), hg1.block k (by omega) (by simp)]
  · rw [heap_setCell_same w2 C j _ t _ hC2]; simp
  · simp [World.setCell]; omega
  · intro i hi
    simp only [List.length_set] at hi
    by_cases e : i = j
    · subst e
      rw [getV_set_same vs i v' (by omega), getD_set_same cs i _ hi]
      have := hown.kept (grown_cell w2 C i v') (.inr hvC)
      simpa using this
    · rw [getV_set_other vs i j v' e, getD_set_other cs i j _ e]
      have e1 := (h4 i hi).kept hg1 (by cases (vs.getD i nilV).ownBlock <;> simp)
      have e2 := e1.kept hgr (h5 i j hi hj e)
      exact e2.kept (grown_cell w2 C j v') (.inr (fun e => hCne i hi e.symm))
  · intro i k hi hk hne
    simp only [List.length_set] at hi hk
    have hlt : ∀ i, i < cs.length → (vs.getD i nilV).ownBlock = none ∨ (vs.getD i nilV).ownBlock ≠ some w1.heap.size := fun i hi => by
      right
      intro e
      have := own_block (h4 i hi) e
      omega
    by_cases e1 : i = j
    · subst e1
      rw [getV_set_same vs i v' (by omega), getV_set_other vs k i v' (Ne.symm hne)]
      rcases hloc with hl | hl
      · rw [hl]; exact h5 i k hi hk hne
      · right
        rw [hl]
        intro e
        rcases hlt k hk with h | h
        · rw [h] at e; cases e
        · exact h e.symm
    · rw [getV_set_other vs i j v' e1]
      by_cases e2 : k = j
      · subst e2
        rw [getV_set_same vs k v' (by omega)]
        rcases hloc with hl | hl
        · rw [hl]; exact h5 i k hi hk hne
        · rw [hl]; exact hlt i hi
      · rw [getV_set_other vs k j v' e2]
        exact h5 i k hi hk hne

/-- 'make([][]float64, n)': empty columns. -/
theorem Cl.made (w : World) (n : Nat) (cs : Array Value) (h : cs = (List.replicate n (Value.slice none 0 0)).toArray) : Cl (w.alloc (.cells cs 24)) w.heap.size (w.heap.size + 1) (List.replicate n []) := by
  have hg : ∀ j, (List.replicate n (Value.slice none 0 0)).getD j nilV = .slice none 0 0 := fun j => by
    simp only [List.getD_eq_getElem?_getD, List.getElem?_replicate]
    split <;> rfl
  have hg' : ∀ j, (List.replicate n ([] : List Nat)).getD j [] = [] := fun j => by
    simp only [List.getD_eq_getElem?_getD, List.getElem?_replicate]
    split <;> rfl
  refine ⟨List.replicate n (.slice none 0 0), 24, by rw [heap_alloc_new, h], by omega, by simp, by simp, fun j _ => ?_, fun i j _ _ _ => ?_⟩
  · rw [hg, hg']
    exact World.ownsRow_nil _ _ _ _
  · rw [hg]; exact .inl rfl

theorem Cl.size {w : World} {C base : Nat} {cs : List (List Nat)} (h : Cl w C base cs) : base ≤ w.heap.size := by
  obtain ⟨_, _, _, _, h2, _⟩ := h
  exact h2

theorem Cl.below {w w' : World} {C base : Nat} {cs : List (List Nat)} (h : Cl w C base cs) (hb : Below w.heap.size w w') : Cl w' C base cs := by
  obtain ⟨vs, t, h1, h2, h2', h3, h4, h5⟩ := h
  have hg := grown_below hb none
  exact ⟨vs, t, by rw [hb.block C (by omega)]; exact h1, h2, Nat.le_trans h2' hb.size, h3, fun j hj => (h4 j hj).kept hg (by cases (vs.getD j nilV).ownBlock <;> simp), h5⟩

/-- cloneRuns, whatever came in. -/
theorem clones_any (ao : Option Addr) (len cap : Nat) (rs : Nat → Run) (w : World) (hnil : ao = none → len = 0 ∧ cap = 0) (h16 : len ≤ 65536) (hr : RunsIn w ao len rs) (h17 : ∀ k, k < len → (rs k).l ≤ 131072) :
    Calls Trym.prog 7 #[.slice ao len cap] w fun e w' => ∃ ao', e = .returned (.slice ao' len len) ∧ Below w.heap.size w w' ∧ (len = 0 ∨ ∃ R, ao' = some ⟨R, 0, none⟩ ∧ w.heap.size ≤ R ∧ RR w' R w'.heap.size ((List.range len).map fun k => (rs k).row)) := by
  cases ao with
  | none =>
    obtain ⟨rfl, rfl⟩ := hnil rfl
    refine (clones_nil w).mono ?_
    rintro e w' ⟨rfl, rfl⟩
    exact ⟨none, rfl, Below.refl _ _, .inl rfl⟩
  | some x =>
    refine (clones_some x len cap rs w h16 hr h17).mono ?_
    rintro e w' ⟨rfl, hb, hR⟩
    exact ⟨_, rfl, hb, .inr ⟨_, rfl, Nat.le_refl _, hR⟩⟩

theorem info29 : (Trym.prog.info? 29).map (fun i => (i.zero, i.size, i.bytes)) = some (some (.agg #[.float .f64 0, .float .f64 0]), 2, 16) := by kernel_rfl

theorem made_pairs : ∀ n : Nat, madeCells #[Value.float .f64 0, Value.float .f64 0] (n * 2) = ((List.replicate (n * 2) 0).map (Value.float .f64)).toArray := by
  intro n
  apply Array.ext
  · simp [madeCells]
  · intro i h1 h2
    simp only [madeCells, Array.getElem_map, Array.getElem_range]
    rcases (by omega : i % 2 = 0 ∨ i % 2 = 1) with h | h
    · simp [h]
    · simp [h]

/-- 'make([][2]float64, n)'. -/
theorem run_make28 (n : Nat) (hn : n ≤ 200000) (w : World) : (Instr.makeSlice 28 (.int .i64 (n : Int)) (.int .i64 (n : Int))).run Trym.prog w =
    .ok (.slice (some ⟨w.heap.size, 0, none⟩) n n) (w.alloc (.cells (madeCells #[Value.float .f64 0, Value.float .f64 0] (n * 2)) 29)) := by
  obtain ⟨i, hi, h0, h1, h2⟩ := info_parts info29
  have := run_make (P := Trym.prog) w 28 29 i _ Trym.underlying28 hi h0 .i64 .i64 n n (by omega) (Int.le_refl _) (by rw [h2]; omega) (by omega)
  rw [this, h1]
  simp [Value.cells]

/-! ### The columns while run k is laid in: the first m have its times already -/
def mid (rows : List (List Nat)) (k P m : Nat) : List (List Nat) := (List.range P).map fun p => if p < m then col (rows.take (k + 1)) p else col (rows.take k) p

theorem mid_length (rows : List (List Nat)) (k P m : Nat) : (mid rows k P m).length = P := by simp [mid]

theorem mid_get (rows : List (List Nat)) (k P m p : Nat) (hp : p < P) : (mid rows k P m).getD p [] = if p < m then col (rows.take (k + 1)) p else col (rows.take k) p := by
  simp [mid, List.getD_eq_getElem?_getD, hp]

theorem col_take_succ (rows : List (List Nat)) (k p : Nat) (hk : k < rows.length) : col (rows.take (k + 1)) p = col (rows.take k) p ++ (if p < (rows.getD k []).length then [(rows.getD k []).getD p 0] else []) := by
  have e : rows.take (k + 1) = rows.take k ++ [rows.getD k []] := by
    rw [List.take_succ_eq_append_getElem hk]
    simp [List.getD_eq_getElem?_getD, List.getElem?_eq_getElem hk]
  rw [e, col_snoc]

theorem mid_step (rows : List (List Nat)) (k P m : Nat) (hk : k < rows.length) (hm : m < (rows.getD k []).length) (hP : m < P) :
    (mid rows k P m).set m ((mid rows k P m).getD m [] ++ [(rows.getD k []).getD m 0]) = mid rows k P (m + 1) := by
  apply List.ext_getElem
  · simp [mid_length]
  · intro p h1 h2
    simp only [List.length_set, mid_length] at h1
    rw [List.getElem_set]
    by_cases e : m = p
    · subst e
      rw [if_pos rfl, mid_get rows k P m m hP, if_neg (by omega)]
      have := col_take_succ rows k m hk
      rw [if_pos hm] at this
      simp [mid, this]
    · rw [if_neg e]
      have e2 : (p < m + 1) ↔ (p < m) := by omega
      simp only [mid, List.getElem_map, List.getElem_range]
      by_cases h3 : p < m
      · rw [if_pos h3, if_pos (by omega)]
      · rw [if_neg h3, if_neg (by omega)]

theorem mid_zero (rows : List (List Nat)) (P : Nat) : mid rows 0 P 0 = List.replicate P [] := by
  apply List.ext_getElem
  · simp [mid_length]
  · intro p h1 h2
    simp [mid, col]

theorem mid_next (rows : List (List Nat)) (k P : Nat) (hk : k < rows.length) : mid rows k P (rows.getD k []).length = mid rows (k + 1) P 0 := by
  apply List.ext_getElem
  · simp [mid_length]
  · intro p h1 h2
    simp only [mid, List.getElem_map, List.getElem_range]
    by_cases h3 : p < (rows.getD k []).length
    · rw [if_pos h3, if_neg (by omega)]
    · rw [if_neg h3, if_neg (by omega)]
      have := col_take_succ rows k p hk
      rw [if_neg h3] at this
      simpa using this.symm

theorem mid_le (rows : List (List Nat)) (k P m p : Nat) (hp : p < P) : ((mid rows k P m).getD p []).length ≤ k + 1 := by
  rw [mid_get rows k P m p hp]
  have h1 := col_length (rows.take (k + 1)) p
  have h2 := col_length (rows.take k) p
  simp only [List.length_take] at h1 h2
  split <;> omega
end Go.Proofs.Qxb6600036aMods.Hold
