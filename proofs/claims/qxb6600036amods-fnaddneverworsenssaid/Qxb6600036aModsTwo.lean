/-
  THE CONTRACTS OF twoSmallest (10), zzBytes_FnAddTwoFastest (6), cloneRuns (7). (An AI prover, Nov 15 2026.)
-/
import Derived.Test.Qxb6600036aModsAdd
namespace Go.Proofs.Qxb6600036aMods.Hold
open Go.ChangeShapes Go.WideShapes Go.ChangeAt Go.RowKit Go.Proofs.Qxb6600036aMods.Plain

attribute [local go_sem] run_store_float

theorem ltB_num {v f : Nat} (h : ltB v f = true) : (Ieee.double.order v v != some .eq) = false := by
  have := ltB_self h
  rw [this]; rfl

set_option maxRecDepth 100000 in
set_option maxHeartbeats 1000000 in
theorem two_any (co : Option Addr) (n cap inf : Nat) (l : List Nat) (w : World) (hn : n ≤ 200000) (hl : l.length = n) (hr : Rd w co n l) :
    Calls Trym.prog 10 #[.slice co n cap, .float .f64 inf] w fun e w' => e = .returned (.tuple #[.float .f64 (f1 inf l n).1, .float .f64 (s2 inf l (f1 inf l n).2 n)]) ∧ w' = w := by
  have HL := hide hl
  clear hl
  go_enter Trym.func10, Trym.ntmps10
  go_wp2
  go_loop [6, 7, 8] (fun tf ti tk => ∃ k : Nat, k ≤ n ∧ tk = .int .i64 k ∧ tf = .float .f64 (f1 inf l k).1 ∧ ti = .int .i64 (f1 inf l k).2) (fun _ _ tk => n - (intOf tk).toNat)
  case atStart => exact ⟨0, by omega, rfl, rfl, rfl⟩
  case round =>
    obtain ⟨k, hk, rfl, rfl, rfl⟩ := hrel
    by_cases hlt : k < n
    · obtain ⟨b, off, rfl, hc⟩ := hr.resolve_left (by omega)
      have hck := hc k hlt
      clear hc
      have hyes : ltB (l.getD k 0) (f1 inf l k).1 = true → f1 inf l (k + 1) = (l.getD k 0, (k : Int)) := fun h => by simp only [f1]; rw [if_pos h]
      have hno : ¬ ltB (l.getD k 0) (f1 inf l k).1 = true → f1 inf l (k + 1) = f1 inf l k := fun h => by simp only [f1]; rw [if_neg h]
      have hlk : (k : Int) < n := by omega
      obtain ⟨f, ix, hf⟩ : ∃ f ix, f1 inf l k = (f, ix) := ⟨_, _, rfl⟩
      rw [hf] at hyes hno ⊢
      generalize l.getD k 0 = v at *
      have HY := hide hyes
      have HNO := hide hno
      clear hyes hno hf
      by_cases h1 : ltB v f = true
      · have b1 : (FloatKind.f64.format.order v f == some .lt) = true := h1
        have b2 : (Ieee.double.order v v != some .eq) = false := ltB_num h1
        go_wp2_with (go_at_call 16; refine (isNaN_any _ _).mono ?_; rintro e w' ⟨rfl, rfl⟩)
        go_round
        case rel => exact ⟨k + 1, by omega, by go_num, by rw [unhide HY h1], by rw [unhide HY h1]⟩
        case measure => simp [intOf]; omega
      · have b1 : (FloatKind.f64.format.order v f == some .lt) = false := by simpa [ltB, fmt64] using h1
        by_cases hN : (Ieee.double.order v v != some .eq) = true
        · go_wp2_with (go_at_call 16; refine (isNaN_any _ _).mono ?_; rintro e w' ⟨rfl, rfl⟩)
          go_round
          case rel => exact ⟨k + 1, by omega, by go_num, by rw [unhide HNO h1], by rw [unhide HNO h1]⟩
          case measure => simp [intOf]; omega
        · have hN' : (Ieee.double.order v v != some .eq) = false := by simpa using hN
          clear hN
          go_wp2_with (go_at_call 16; refine (isNaN_any _ _).mono ?_; rintro e w' ⟨rfl, rfl⟩)
          go_round
          case rel => exact ⟨k + 1, by omega, by go_num, by rw [unhide HNO h1], by rw [unhide HNO h1]⟩
          case measure => simp [intOf]; omega
    · obtain rfl : k = n := by omega
      have hixl := f1_lt inf l k
      obtain ⟨f, ix, hf⟩ : ∃ f ix, f1 inf l k = (f, ix) := ⟨_, _, rfl⟩
      rw [hf] at hixl ⊢
      have HF := hide hf
      clear hf
      go_wp2
      go_loop [10, 11] (fun ts tk => ∃ q : Nat, q ≤ k ∧ tk = .int .i64 q ∧ ts = .float .f64 (s2 inf l ix q)) (fun _ tk => k - (intOf tk).toNat)
      case atStart => exact ⟨0, by omega, rfl, rfl⟩
      case round =>
        obtain ⟨q, hq, rfl, rfl⟩ := hrel
        by_cases hlt2 : q < k
        · obtain ⟨b, off, rfl, hc⟩ := hr.resolve_left (by omega)
          have hck := hc q hlt2
          clear hc
          have hlk : (q : Int) < k := by omega
          have hsk : (q : Int) = ix → s2 inf l ix (q + 1) = s2 inf l ix q := fun h => by simp only [s2]; rw [if_pos h]
          have hyes : ¬ (q : Int) = ix → ltB (l.getD q 0) (s2 inf l ix q) = true → s2 inf l ix (q + 1) = l.getD q 0 := fun h h' => by simp only [s2]; rw [if_neg h, if_pos h']
          have hno : ¬ (q : Int) = ix → ¬ ltB (l.getD q 0) (s2 inf l ix q) = true → s2 inf l ix (q + 1) = s2 inf l ix q := fun h h' => by simp only [s2]; rw [if_neg h, if_neg h']
          generalize s2 inf l ix q = f' at *
          generalize l.getD q 0 = v at *
          have HSK := hide hsk
          have HY := hide hyes
          have HNO := hide hno
          clear hsk hyes hno
          by_cases hqi : (q : Int) = ix
          · have hb : ((q : Int) == ix) = true := by simpa using hqi
            have HQ := hide hqi
            clear hqi
            go_wp2
            go_round
            case rel => exact ⟨q + 1, by omega, by go_num, by rw [unhide HSK (unhide HQ)]⟩
            case measure => simp [intOf]; omega
          · have hb : ((q : Int) == ix) = false := by simpa using hqi
            have HQ := hide hqi
            clear hqi
            by_cases h1 : ltB v f' = true
            · have b1 : (FloatKind.f64.format.order v f' == some .lt) = true := h1
              have b2 : (Ieee.double.order v v != some .eq) = false := ltB_num h1
              go_wp2_with (go_at_call 16; refine (isNaN_any _ _).mono ?_; rintro e w' ⟨rfl, rfl⟩)
              go_round
              case rel => exact ⟨q + 1, by omega, by go_num, by rw [unhide HY (unhide HQ) h1]⟩
              case measure => simp [intOf]; omega
            · have b1 : (FloatKind.f64.format.order v f' == some .lt) = false := by simpa [ltB, fmt64] using h1
              by_cases hN : (Ieee.double.order v v != some .eq) = true
              · go_wp2_with (go_at_call 16; refine (isNaN_any _ _).mono ?_; rintro e w' ⟨rfl, rfl⟩)
                go_round
                case rel => exact ⟨q + 1, by omega, by go_num, by rw [unhide HNO (unhide HQ) h1]⟩
                case measure => simp [intOf]; omega
              · have hN' : (Ieee.double.order v v != some .eq) = false := by simpa using hN
                clear hN
                go_wp2_with (go_at_call 16; refine (isNaN_any _ _).mono ?_; rintro e w' ⟨rfl, rfl⟩)
                go_round
                case rel => exact ⟨q + 1, by omega, by go_num, by rw [unhide HNO (unhide HQ) h1]⟩
                case measure => simp [intOf]; omega
        · obtain rfl : q = k := by omega
          go_wp2
          go_ret2
          exact ⟨by rw [unhide HF]; rfl, rfl⟩

/-! ### The runs, as they came in -/
structure Run where
  co : Option Addr
  l : Nat
  c : Nat
  z : List Nat

def Run.row (r : Run) : List Nat := r.z.take r.l

structure Run.Ok (W : World) (r : Run) : Prop where
  rd : Rd W r.co r.l r.z
  le : r.l ≤ r.z.length
  mx : r.l ≤ maxLen
  nil : r.co = none → r.l = 0 ∧ r.c = 0

theorem Run.Ok.length {W : World} {r : Run} (h : r.Ok W) : r.row.length = r.l := by unfold Run.row; rw [List.length_take_of_le h.le]

def RunsIn (W : World) (ao : Option Addr) (len : Nat) (rs : Nat → Run) : Prop :=
  len = 0 ∨ ∃ b off, ao = some ⟨b, off, none⟩ ∧ ∀ k, k < len → W.cell? ⟨b, off + k, none⟩ = some (.slice (rs k).co (rs k).l (rs k).c) ∧ (rs k).Ok W

set_option maxHeartbeats 400000 in
theorem bytes6_any (ao : Option Addr) (len cap : Nat) (rs : Nat → Run) (w : World) (hm : len ≤ maxLen) (hr : RunsIn w ao len rs) :
    Calls Trym.prog 6 #[.slice ao len cap] w fun e w' => SomeBool e ∧ w' = w := by
  unfold maxLen at hm
  by_cases h1 : len ≤ 1048576
  · go_enter Trym.func6, Trym.ntmps6
    go_wp2
    go_loop [3, 4] (fun tz ti => ∃ (x : Int) (k : Nat), k ≤ len ∧ tz = .int .i64 x ∧ ti = .int .i64 k) (fun _ ti => len - (intOf ti).toNat)
    case atStart => exact ⟨_, 0, by omega, rfl, rfl⟩
    case round =>
      obtain ⟨x, k, hk, rfl, rfl⟩ := hrel
      by_cases hlt : k < len
      · obtain ⟨b, off, rfl, hc⟩ := hr.resolve_left (by omega)
        have hck := (hc k hlt).1
        clear hc
        generalize (rs k).co = co at hck
        generalize (rs k).l = l at hck
        generalize (rs k).c = c at hck
        go_wp2
        all_goals first
          | (go_ret; exact ⟨⟨_, rfl⟩, rfl⟩)
          | skip
        all_goals
          go_round
          case rel => exact ⟨_, k + 1, by omega, rfl, by go_num⟩
          case measure => simp [intOf]; omega
      · go_wp2
        go_ret
        exact ⟨⟨_, rfl⟩, rfl⟩
  · go_enter Trym.func6, Trym.ntmps6
    go_wp2
    go_ret
    exact ⟨⟨_, rfl⟩, rfl⟩

/-! ### Rows of rows of the call's own -/
def RowV (w : World) (R hi : Nat) (v : Value) (r : List Nat) : Prop := ∃ co, v = .slice co r.length r.length ∧ (r.length = 0 ∨ ∃ g, co = some ⟨g, 0, none⟩ ∧ R < g ∧ g < hi ∧ Rf w g r)

def nilV : Value := .slice none 0 0

def RR (w : World) (R hi : Nat) (rows : List (List Nat)) : Prop :=
  ∃ (vs : List Value) (t : TypeId), w.heap[R]? = some (.cells vs.toArray t (0, 0)) ∧ R < hi ∧ vs.length = rows.length ∧ ∀ k, k < rows.length → RowV w R hi (vs.getD k nilV) (rows.getD k [])

theorem RowV.same {w w' : World} {R hi : Nat} {v : Value} {r : List Nat} (h : RowV w R hi v r) (e : ∀ k, R < k → k < hi → w'.heap[k]? = w.heap[k]?) {hi' : Nat} (hh : hi ≤ hi') : RowV w' R hi' v r := by
  obtain ⟨co, h1, h2⟩ := h
  refine ⟨co, h1, ?_⟩
  rcases h2 with h2 | ⟨g, h3, h4, h5, h6⟩
  · exact .inl h2
  · exact .inr ⟨g, h3, h4, by omega, h6.same (e g h4 h5)⟩

theorem RR.same {w w' : World} {R hi : Nat} {rows : List (List Nat)} (h : RR w R hi rows) (e : ∀ k, k < hi → w'.heap[k]? = w.heap[k]?) {hi' : Nat} (hh : hi ≤ hi') : RR w' R hi' rows := by
  obtain ⟨vs, t, h1, h2, h3, h4⟩ := h
  exact ⟨vs, t, by rw [e R h2]; exact h1, by omega, h3, fun k hk => (h4 k hk).same (fun k' _ h' => e k' h') hh⟩

theorem RR.below {w w' : World} {R hi B : Nat} {rows : List (List Nat)} (h : RR w R hi rows) (hb : Below B w w') (hB : hi ≤ B) : RR w' R hi rows := h.same (fun k hk => hb.block k (by omega)) (Nat.le_refl _)

theorem RR.set {w : World} {R hi : Nat} {rows : List (List Nat)} (h : RR w R hi rows) (k : Nat) (v : Value) (r : List Nat) (hv : RowV w R hi v r) : RR (w.setCell ⟨R, k, none⟩ v) R hi (rows.set k r) := by
  obtain ⟨vs, t, h1, h2, h3, h4⟩ := h
  have e : ∀ j, R < j → j < hi → (w.setCell ⟨R, k, none⟩ v).heap[j]? = w.heap[j]? := fun j h5 _ => heap_setCell_other w ⟨R, k, none⟩ j v (by simp; omega)
  refine ⟨vs.set k v, t, ?_, h2, by simp [h3], fun j hj => ?_⟩
  · rw [heap_setCell_same w R k _ t _ h1]; simp
  · simp only [List.length_set] at hj
    by_cases ek : k = j
    · subst ek
      have e1 : (vs.set k v).getD k nilV = v := by simp [List.getD_eq_getElem?_getD, h3, hj]
      have e2 : (rows.set k r).getD k [] = r := by simp [List.getD_eq_getElem?_getD, hj]
      rw [e1, e2]
      exact hv.same e (Nat.le_refl _)
    · have e1 : (vs.set k v).getD j nilV = vs.getD j nilV := by simp [List.getD_eq_getElem?_getD, ek]
      have e2 : (rows.set k r).getD j [] = rows.getD j [] := by simp [List.getD_eq_getElem?_getD, ek]
      rw [e1, e2]
      exact (h4 j hj).same e (Nat.le_refl _)

theorem RR.cell {w : World} {R hi : Nat} {rows : List (List Nat)} (h : RR w R hi rows) {k : Nat} (hk : k < rows.length) :
    ∃ co, w.cell? ⟨R, k, none⟩ = some (.slice co (rows.getD k []).length (rows.getD k []).length) ∧ w.frozen? ⟨R, k, none⟩ = false ∧ ((rows.getD k []).length = 0 ∨ ∃ g, co = some ⟨g, 0, none⟩ ∧ R < g ∧ g < hi ∧ Rf w g (rows.getD k [])) := by
  obtain ⟨vs, t, h1, h2, h3, h4⟩ := h
  obtain ⟨co, h5, h6⟩ := h4 k hk
  refine ⟨co, ?_, frozen_of_row w R k _ t h1, h6⟩
  rw [cell_of_row w R k _ t _ h1, ← h5]
  simp [List.getD_eq_getElem?_getD, h3, hk]

/-! ### cloneRuns -/
theorem info24 : (Trym.prog.info? 24).map (fun i => (i.zero, i.size, i.bytes)) = some (some (.slice none 0 0), 1, 24) := by kernel_rfl

theorem clones_nil (w : World) : Calls Trym.prog 7 #[.slice none 0 0] w fun e w' => e = .returned (.slice none 0 0) ∧ w' = w := by
  have hnil := fun wx => Lib.run_eql_slice_nil (P := Trym.prog) wx 22 24 none 0 0 0 0 Trym.underlying22
  go_enter Trym.func7, Trym.ntmps7
  go_wp2
  go_ret
  exact ⟨rfl, rfl⟩

theorem fill_rows (rows : List (List Nat)) (k len : Nat) (hk : k < len) (hl : len = rows.length) :
    (rows.take k ++ List.replicate (len - k) []).set k (rows.getD k []) = rows.take (k + 1) ++ List.replicate (len - (k + 1)) [] := by
  apply List.ext_getElem?
  intro j
  rw [List.getElem?_set]
  simp only [List.getElem?_append, List.length_take, List.getElem?_take, List.getElem?_replicate, List.length_append, List.length_replicate, List.getD_eq_getElem?_getD]
  by_cases h1 : k = j
  · subst h1
    have : k < rows.length := by omega
    simp [this, show k < min (k + 1) rows.length by omega, show k < min k rows.length + (len - k) by omega]
  · rw [if_neg h1]
    by_cases h2 : j < k
    · simp [h2, show j < min k rows.length by omega, show j < min (k + 1) rows.length by omega, show j < k + 1 by omega]
    · have e1 : ¬ j < min k rows.length := by omega
      have e2 : ¬ j < min (k + 1) rows.length := by omega
      rw [if_neg e1, if_neg e2]
      by_cases h3 : j < len
      · rw [if_pos (by omega), if_pos (by omega)]
      · rw [if_neg (by omega), if_neg (by omega)]

/-- cloneRun, whatever came in. -/
theorem clone_any (r : Run) (w : World) (h : r.Ok w) (h17 : r.l ≤ 131072) :
    Calls Trym.prog 14 #[.slice r.co r.l r.c] w fun e w' => ∃ co, e = .returned (.slice co r.l r.l) ∧ Below w.heap.size w w' ∧ (r.l = 0 ∨ ∃ g, co = some ⟨g, 0, none⟩ ∧ w.heap.size ≤ g ∧ g < w'.heap.size ∧ Rf w' g r.row) := by
  cases hco : r.co with
  | none =>
    obtain ⟨h1, h2⟩ := h.nil hco
    rw [h1, h2]
    refine (clone_nil w).mono ?_
    rintro e w' ⟨rfl, rfl⟩
    exact ⟨none, rfl, Below.refl _ _, .inl rfl⟩
  | some x =>
    have hrd := h.rd
    rw [hco] at hrd
    refine (clone_some x r.l r.c r.z w h.le (by omega) hrd).mono ?_
    rintro e w' ⟨rfl, hb, hr, hz⟩
    exact ⟨_, rfl, hb, .inr ⟨_, rfl, Nat.le_refl _, by omega, hr⟩⟩

theorem Run.Ok.kept {w w' : World} {r : Run} (h : r.Ok w) (hb : Below w.heap.size w w') : r.Ok w' := ⟨h.rd.kept hb, h.le, h.mx, h.nil⟩

theorem rows_get (len : Nat) (rs : Nat → Run) (k : Nat) (hk : k < len) : (((List.range len).map fun k => (rs k).row)).getD k [] = (rs k).row := by
  simp [List.getD_eq_getElem?_getD, hk]

set_option maxHeartbeats 400000 in
theorem clones_some (x : Addr) (len cap : Nat) (rs : Nat → Run) (w : World) (h16 : len ≤ 65536) (hr : RunsIn w (some x) len rs) (h17 : ∀ k, k < len → (rs k).l ≤ 131072) :
    Calls Trym.prog 7 #[.slice (some x) len cap] w fun e w' => e = .returned (.slice (some ⟨w.heap.size, 0, none⟩) len len) ∧ Below w.heap.size w w' ∧ RR w' w.heap.size w'.heap.size ((List.range len).map fun k => (rs k).row) := by
  have hnil := fun wx => Lib.run_eql_slice_nil (P := Trym.prog) wx 22 24 (some x) len cap 0 0 Trym.underlying22
  have hmk := run_make_row' (P := Trym.prog) 22 24 (.slice none 0 0) 24 Trym.underlying22 info24 rfl .i64 .i64 len (by omega) (by omega)
  have hrg := rows_get len rs
  have hrl : (((List.range len).map fun k => (rs k).row)).length = len := by simp
  generalize ((List.range len).map fun k => (rs k).row) = rows at *
  have HRG := hide hrg
  have HRL := hide hrl
  clear hrg hrl
  go_enter Trym.func7, Trym.ntmps7
  go_wp2
  go_loopw [4] (fun i wr => ∃ k : Nat, k ≤ len ∧ i = .int .i64 k ∧ Below w.heap.size w wr ∧ w.heap.size < wr.heap.size ∧ RR wr w.heap.size wr.heap.size (rows.take k ++ List.replicate (len - k) []))
    (fun i _ => len - (intOf i).toNat)
  case atStart =>
    refine ⟨0, Nat.zero_le _, rfl, (Below.refl _ _).alloc (Nat.le_refl _) _, by simp, ?_⟩
    refine ⟨List.replicate len (.slice none 0 0), 24, ?_, by simp, by simp, fun k hk => ?_⟩
    · rw [heap_alloc_new]
      have : madeCells #[Value.slice none 0 0] len = (List.replicate len (Value.slice none 0 0)).toArray := by
        apply Array.toList_inj.1
        rw [toList_madeCells_one]
      rw [this]
    · have hk' : k < len := by simpa using hk
      refine ⟨none, ?_, .inl ?_⟩
      · simp [List.getD_eq_getElem?_getD, hk']
      · simp [List.getD_eq_getElem?_getD, hk']
  case round =>
    obtain ⟨k, hk, rfl, hb, hsz, hrow⟩ := hrel
    by_cases hlt : k < len
    · obtain ⟨b, off, hx, hc⟩ := hr.resolve_left (by omega)
      injection hx with hx
      subst hx
      obtain ⟨h0, hok⟩ := hc k hlt
      have h1 : wr.cell? ⟨b, off + k, none⟩ = some (.slice (rs k).co (rs k).l (rs k).c) := by rw [hb.cell (p := ⟨b, off + k, none⟩) (World.block_lt_of_cell? w _ h0)]; exact h0
      have hok1 := hok.kept hb
      have h17k := h17 k hlt
      have hrk := unhide HRG k hlt
      have hfill := fill_rows rows k len hlt (unhide HRL).symm
      rw [hrk] at hfill
      have hrl := hok.length
      clear hc h0 hmk hnil
      go_wp2_with fail
      refine (clone_any (rs k) wr hok1 h17k).mono ?_
      rintro e w2 ⟨co, rfl, hb2, hco⟩
      have hrow2 := hrow.same (w' := w2) (fun j hj => hb2.block j hj) hb2.size
      obtain ⟨co2, hcell, hfz, _⟩ := hrow2.cell (k := k) (by have := unhide HRL; simp; omega)
      have hv : RowV w2 w.heap.size w2.heap.size (.slice co (rs k).l (rs k).l) (rs k).row := by
        refine ⟨co, by rw [hrl], ?_⟩
        rcases hco with h | ⟨g, h2, h3, h4, h5⟩
        · exact .inl (by rw [hrl]; exact h)
        · exact .inr ⟨g, h2, by omega, h4, h5⟩
      have hset := hrow2.set k _ _ hv
      rw [hfill] at hset
      have hb3 : Below w.heap.size w w2 := hb.trans (hb2.mono (by omega))
      have hsz2 : w.heap.size < w2.heap.size := Nat.lt_of_lt_of_le hsz hb2.size
      generalize ((rows.take k ++ List.replicate (len - k) []).getD k []).length = l2 at hcell
      have HSET := hide hset
      have HB3 := hide hb3
      clear hset hb3 hv hrow2 hco hb2 hrow hok1 hok hfill hrl hrk hb
      generalize (rs k).l = lk at *
      go_wp2
      go_roundw
      case rel =>
        have es : (w2.setCell ⟨w.heap.size, k, none⟩ (.slice co lk lk)).heap.size = w2.heap.size := by simp [World.setCell]
        refine ⟨k + 1, by omega, by go_num, (unhide HB3).setCell (Nat.le_refl _) _, by rw [es]; exact hsz2, ?_⟩
        rw [es]
        exact unhide HSET
      case measure => simp [intOf]; omega
    · obtain rfl : k = len := by omega
      go_wp2
      go_ret
      exact ⟨rfl, hb, by simpa [List.take_of_length_le, unhide HRL] using hrow⟩
end Go.Proofs.Qxb6600036aMods.Hold
