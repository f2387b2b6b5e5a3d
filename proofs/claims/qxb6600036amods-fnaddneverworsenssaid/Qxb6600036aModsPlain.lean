/-
  THE PLAIN LAWS UNDER FnAddTwoFastest AND FnAddNeverWorsens: floats as words of bits under IEEE's order; pairs of times; columns. No Go text. (An AI prover, Nov 15 2026.)
-/
import Ieee.Arith
namespace Go.Proofs.Qxb6600036aMods.Plain
open Ieee

/-! ### The order of floats -/
theorem order_self_of {a b : Nat} {o : Ordering} (h : double.order a b = some o) : double.order a a = some .eq := by
  unfold Format.order at *
  cases ha : double.read a with
  | nan s f => rw [ha] at h; cases hb : double.read b <;> rw [hb] at h <;> simp [Datum.order] at h
  | infinity s => simp [Datum.order, compare, compareOfLessAndEq]
  | number s m i => simp [Datum.order, compare, compareOfLessAndEq]

theorem order_swap {a b : Nat} {o : Ordering} (h : double.order a b = some o) : double.order b a = some o.swap := by
  unfold Format.order at *
  cases ha : double.read a with
  | nan s f => rw [ha] at h; cases hb : double.read b <;> rw [hb] at h <;> simp [Datum.order] at h
  | infinity s =>
    rw [ha] at h
    cases hb : double.read b with
    | nan t g => rw [hb] at h; simp [Datum.order] at h
    | infinity t =>
      rw [hb] at h
      simp only [Datum.order, Option.some.injEq] at h ⊢
      rw [← h]
      cases s <;> cases t <;> rfl
    | number t n j =>
      rw [hb] at h
      simp only [Datum.order, Option.some.injEq] at h ⊢
      rw [← h]
      cases s <;> rfl
  | number s m i =>
    rw [ha] at h
    cases hb : double.read b with
    | nan t g => rw [hb] at h; simp [Datum.order] at h
    | infinity t =>
      rw [hb] at h
      simp only [Datum.order, Option.some.injEq] at h ⊢
      rw [← h]
      cases t <;> rfl
    | number t n j =>
      rw [hb] at h
      simp only [Datum.order, Option.some.injEq] at h ⊢
      rw [← h, Int.min_comm j i]
      generalize signed s m (i - min i j).toNat = x
      generalize signed t n (j - min i j).toNat = y
      simp only [compare, compareOfLessAndEq]
      by_cases h1 : x < y
      · rw [if_pos h1, if_neg (by omega), if_neg (by omega)]; rfl
      · by_cases h2 : x = y
        · rw [if_neg h1, if_pos h2, if_neg (by omega), if_pos h2.symm]; rfl
        · rw [if_neg h1, if_neg h2, if_pos (by omega)]; rfl

theorem order_total {a b : Nat} (ha : double.order a a = some .eq) (hb : double.order b b = some .eq) : ∃ o, double.order a b = some o := by
  unfold Format.order at *
  cases h1 : double.read a with
  | nan s f => rw [h1] at ha; simp [Datum.order] at ha
  | infinity s =>
    cases h2 : double.read b with
    | nan t g => rw [h2] at hb; simp [Datum.order] at hb
    | infinity t => exact ⟨_, rfl⟩
    | number t n j => exact ⟨_, rfl⟩
  | number s m i =>
    cases h2 : double.read b with
    | nan t g => rw [h2] at hb; simp [Datum.order] at hb
    | infinity t => exact ⟨_, rfl⟩
    | number t n j => exact ⟨_, rfl⟩

/-! ### Zeros -/
def IsZero (a : Nat) : Prop := ∃ s i, double.read a = .number s 0 i

theorem read_zero : double.read 0 = .number false 0 double.leastPlace := by decide

theorem signed_eq_zero {s : Bool} {m k : Nat} (h : signed s m k = 0) : m = 0 := by
  unfold signed at h
  have h1 : m <<< k = 0 := by split at h <;> omega
  rw [Nat.shiftLeft_eq] at h1
  rcases Nat.mul_eq_zero.1 h1 with h2 | h2
  · exact h2
  · exact absurd h2 (by have := Nat.two_pow_pos k; omega)

theorem signed_zero (s : Bool) (k : Nat) : signed s 0 k = 0 := by unfold signed; simp

theorem cmp_eq {x y : Int} (h : compare x y = .eq) : x = y := by
  simp only [compare, compareOfLessAndEq] at h
  by_cases h1 : x < y
  · rw [if_pos h1] at h; cases h
  · rw [if_neg h1] at h
    by_cases h2 : x = y
    · exact h2
    · rw [if_neg h2] at h; cases h

theorem zero_of_eq {a b : Nat} (h : double.order a b = some .eq) (hb : IsZero b) : IsZero a := by
  obtain ⟨t, j, hb⟩ := hb
  unfold Format.order at h
  rw [hb] at h
  cases ha : double.read a with
  | nan s f => rw [ha] at h; simp [Datum.order] at h
  | infinity s => rw [ha] at h; cases s <;> simp [Datum.order] at h
  | number s m i =>
    rw [ha] at h
    simp only [Datum.order, Option.some.injEq] at h
    have h1 := cmp_eq h
    rw [signed_zero] at h1
    have h2 := signed_eq_zero h1
    subst h2
    exact ⟨s, i, ha⟩

theorem isZero_zero : IsZero 0 := ⟨_, _, read_zero⟩

/-- 1/x of a zero: an infinity. -/
theorem one_div {a : Nat} (h : IsZero a) : ∃ r, double.div 4607182418800017408 a = some r ∧ double.order r r = some .eq := by
  obtain ⟨s, i, ha⟩ := h
  have h1 : double.read 4607182418800017408 = .number false 4503599627370496 (-52) := by decide
  unfold Format.div
  rw [ha, h1]
  cases s
  · exact ⟨_, rfl, by decide⟩
  · exact ⟨_, rfl, by decide⟩

/-! ### Pairs of times -/
/-- v < w. -/
def ltB (a b : Nat) : Bool := double.order a b == some .lt

theorem ltB_self {a b : Nat} (h : ltB a b = true) : double.order a a = some .eq := order_self_of (by simpa [ltB] using h)

/-- One time more: what holders.add does to a pair. -/
def up2 (p : Nat × Nat) (t : Nat) : Nat × Nat := if ltB t p.1 then (t, p.1) else if ltB t p.2 then (p.1, t) else p

/-- The pair at place i of a flat row. -/
def pr (ps : List Nat) (i : Nat) : Nat × Nat := (ps.getD (i * 2) 0, ps.getD (i * 2 + 1) 0)
def put (ps : List Nat) (i : Nat) (q : Nat × Nat) : List Nat := (ps.set (i * 2) q.1).set (i * 2 + 1) q.2

theorem length_put (ps : List Nat) (i : Nat) (q : Nat × Nat) : (put ps i q).length = ps.length := by simp [put]

theorem getD_set (l : List Nat) (i j v : Nat) (h : i < l.length) : (l.set i v).getD j 0 = if i = j then v else l.getD j 0 := by
  simp only [List.getD_eq_getElem?_getD, List.getElem?_set]
  split
  · simp_all
  · rfl

theorem pr_put (ps : List Nat) (i j : Nat) (q : Nat × Nat) (h : i * 2 + 1 < ps.length) : pr (put ps i q) j = if i = j then q else pr ps j := by
  unfold pr put
  have h2 : i * 2 + 1 < (ps.set (i * 2) q.1).length := by simpa using h
  rw [getD_set _ (i * 2 + 1) (j * 2) _ h2, getD_set _ (i * 2 + 1) (j * 2 + 1) _ h2, getD_set ps (i * 2) (j * 2) _ (by omega), getD_set ps (i * 2) (j * 2 + 1) _ (by omega)]
  by_cases e : i = j
  · subst e
    rw [if_neg (by omega), if_pos rfl, if_pos rfl, if_pos rfl]
  · rw [if_neg (by omega), if_neg (by omega), if_neg (by omega), if_neg (by omega), if_neg e]

theorem put_same (ps : List Nat) (i : Nat) (h : i * 2 + 1 < ps.length) : put ps i (pr ps i) = ps := by
  unfold put pr
  apply List.ext_getElem?
  intro k
  simp only [List.getElem?_set, List.getD_eq_getElem?_getD, List.length_set]
  by_cases e1 : i * 2 + 1 = k
  · subst e1; simp [h]
  · rw [if_neg e1]
    by_cases e2 : i * 2 = k
    · subst e2
      have : i * 2 < ps.length := by omega
      simp [this]
    · rw [if_neg e2]

/-- What holders.add makes of the row of pairs, the first k times taken. -/
def addTo (ps ts : List Nat) : Nat → List Nat
  | 0 => ps
  | k + 1 => put (addTo ps ts k) k (up2 (pr (addTo ps ts k) k) (ts.getD k 0))

theorem length_addTo (ps ts : List Nat) : ∀ k, (addTo ps ts k).length = ps.length
  | 0 => rfl
  | k + 1 => by rw [addTo, length_put, length_addTo ps ts k]

theorem pr_addTo (ps ts : List Nat) : ∀ (k : Nat), k * 2 ≤ ps.length → ∀ j, pr (addTo ps ts k) j = if j < k then up2 (pr ps j) (ts.getD j 0) else pr ps j
  | 0, _, j => by simp [addTo]
  | k + 1, h, j => by
    rw [addTo, pr_put _ _ _ _ (by rw [length_addTo]; omega)]
    by_cases e : k = j
    · subst e
      rw [if_pos rfl, pr_addTo ps ts k (by omega) k, if_neg (by omega), if_pos (by omega)]
    · rw [if_neg e, pr_addTo ps ts k (by omega) j]
      by_cases h1 : j < k
      · rw [if_pos h1, if_pos (by omega)]
      · rw [if_neg h1, if_neg (by omega)]

theorem set_self (l : List Nat) (i : Nat) (h : i < l.length) : l.set i (l.getD i 0) = l := by
  apply List.ext_getElem?
  intro k
  simp only [List.getElem?_set, List.getD_eq_getElem?_getD]
  by_cases e : i = k
  · subst e; simp [h]
  · rw [if_neg e]

theorem addTo_step (ps ts : List Nat) (k : Nat) (h : k * 2 + 1 < ps.length) :
    (ltB (ts.getD k 0) ((addTo ps ts k).getD (k * 2) 0) = true → addTo ps ts (k + 1) = ((addTo ps ts k).set (k * 2) (ts.getD k 0)).set (k * 2 + 1) ((addTo ps ts k).getD (k * 2) 0)) ∧
    (¬ ltB (ts.getD k 0) ((addTo ps ts k).getD (k * 2) 0) = true → ltB (ts.getD k 0) ((addTo ps ts k).getD (k * 2 + 1) 0) = true → addTo ps ts (k + 1) = (addTo ps ts k).set (k * 2 + 1) (ts.getD k 0)) ∧
    (¬ ltB (ts.getD k 0) ((addTo ps ts k).getD (k * 2) 0) = true → ¬ ltB (ts.getD k 0) ((addTo ps ts k).getD (k * 2 + 1) 0) = true → addTo ps ts (k + 1) = addTo ps ts k) := by
  have hl : k * 2 + 1 < (addTo ps ts k).length := by rw [length_addTo]; exact h
  have e : addTo ps ts (k + 1) = put (addTo ps ts k) k (up2 ((addTo ps ts k).getD (k * 2) 0, (addTo ps ts k).getD (k * 2 + 1) 0) (ts.getD k 0)) := rfl
  rw [e]
  have hs := set_self (addTo ps ts k) (k * 2) (by omega)
  have hp := put_same (addTo ps ts k) k hl
  unfold pr at hp
  generalize addTo ps ts k = qs at *
  generalize ts.getD k 0 = t at *
  generalize qs.getD (k * 2) 0 = a at *
  generalize qs.getD (k * 2 + 1) 0 = b at *
  refine ⟨fun h1 => ?_, fun h1 h2 => ?_, fun h1 h2 => ?_⟩
  · simp [up2, h1, put]
  · simp [up2, h1, h2, put, hs]
  · simp [up2, h1, h2, hp]

/-! ### Columns, and the two smallest -/
/-- The j-th times of those runs that have one. -/
def col (rs : List (List Nat)) (j : Nat) : List Nat := rs.filterMap (fun r => r[j]?)

theorem col_snoc (rs : List (List Nat)) (r : List Nat) (j : Nat) : col (rs ++ [r]) j = col rs j ++ (if j < r.length then [r.getD j 0] else []) := by
  unfold col
  rw [List.filterMap_append]
  congr 1
  by_cases h : j < r.length
  · rw [if_pos h]
    simp [List.getD_eq_getElem?_getD, List.getElem?_eq_getElem h]
  · rw [if_neg h]
    simp [List.getElem?_eq_none (show r.length ≤ j by omega)]

theorem col_length (rs : List (List Nat)) (j : Nat) : (col rs j).length ≤ rs.length := List.length_filterMap_le _ _

/-- The holders behind all runs. -/
def allIn (ps : List Nat) (rs : List (List Nat)) : List Nat := rs.foldl (fun h r => addTo h r r.length) ps

theorem allIn_snoc (ps : List Nat) (rs : List (List Nat)) (r : List Nat) : allIn ps (rs ++ [r]) = addTo (allIn ps rs) r r.length := by simp [allIn]

theorem length_fold : ∀ (rs : List (List Nat)) (ps : List Nat), (rs.foldl (fun h r => addTo h r r.length) ps).length = ps.length
  | [], _ => rfl
  | r :: rs, ps => by rw [List.foldl_cons, length_fold rs, length_addTo]

theorem length_allIn (ps : List Nat) (rs : List (List Nat)) : (allIn ps rs).length = ps.length := length_fold rs ps

theorem pr_fold : ∀ (rs : List (List Nat)) (ps : List Nat) (j : Nat), (∀ r ∈ rs, r.length * 2 ≤ ps.length) → pr (rs.foldl (fun h r => addTo h r r.length) ps) j = (col rs j).foldl up2 (pr ps j)
  | [], _, _, _ => rfl
  | r :: rs, ps, j, h => by
    rw [List.foldl_cons, pr_fold rs (addTo ps r r.length) j (fun r' hr' => by rw [length_addTo]; exact h r' (by simp [hr'])), pr_addTo ps r r.length (h r (by simp)) j]
    by_cases hj : j < r.length
    · have e : col (r :: rs) j = r.getD j 0 :: col rs j := by
        simp [col, List.getD_eq_getElem?_getD, List.getElem?_eq_getElem hj]
      rw [if_pos hj, e, List.foldl_cons]
    · have e : col (r :: rs) j = col rs j := by
        simp [col, List.getElem?_eq_none (show r.length ≤ j by omega)]
      rw [if_neg hj, e]

theorem pr_allIn (ps : List Nat) (rs : List (List Nat)) (j : Nat) (h : ∀ r ∈ rs, r.length * 2 ≤ ps.length) : pr (allIn ps rs) j = (col rs j).foldl up2 (pr ps j) := pr_fold rs ps j h

/-- twoSmallest's first loop: the least so far, and its place (-1: none). -/
def f1 (inf : Nat) (l : List Nat) : Nat → Nat × Int
  | 0 => (inf, -1)
  | k + 1 => if ltB (l.getD k 0) (f1 inf l k).1 then (l.getD k 0, k) else f1 inf l k

/-- Its second loop: the least of the others. -/
def s2 (inf : Nat) (l : List Nat) (idx : Int) : Nat → Nat
  | 0 => inf
  | k + 1 => if (k : Int) = idx then s2 inf l idx k else if ltB (l.getD k 0) (s2 inf l idx k) then l.getD k 0 else s2 inf l idx k

theorem f1_lt (inf : Nat) (l : List Nat) : ∀ k, (f1 inf l k).2 < k
  | 0 => by simp [f1]
  | k + 1 => by
    have := f1_lt inf l k
    simp only [f1]
    split
    · simp; omega
    · omega

theorem s2_all (inf : Nat) (l : List Nat) (idx : Int) : ∀ k : Nat, (k : Int) ≤ idx → s2 inf l idx k = (f1 inf l k).1
  | 0, _ => rfl
  | k + 1, h => by
    have ih := s2_all inf l idx k (by omega)
    simp only [s2, f1]
    rw [if_neg (by omega), ih]
    split <;> rfl

theorem two_fold (inf : Nat) (l : List Nat) : ∀ k : Nat, k ≤ l.length → (l.take k).foldl up2 (inf, inf) = ((f1 inf l k).1, s2 inf l (f1 inf l k).2 k)
  | 0, _ => rfl
  | k + 1, h => by
    have ih := two_fold inf l k (by omega)
    have e : l.take (k + 1) = l.take k ++ [l.getD k 0] := by
      rw [List.take_succ_eq_append_getElem (by omega)]
      simp [List.getD_eq_getElem?_getD, List.getElem?_eq_getElem (show k < l.length by omega)]
    rw [e, List.foldl_append, ih]
    simp only [List.foldl_cons, List.foldl_nil, up2]
    have hl := f1_lt inf l k
    by_cases h1 : ltB (l.getD k 0) (f1 inf l k).1 = true
    · have e1 : f1 inf l (k + 1) = (l.getD k 0, (k : Int)) := by simp only [f1]; rw [if_pos h1]
      rw [if_pos h1, e1]
      simp only [s2]
      rw [if_pos trivial, s2_all inf l k k (by omega)]
    · have e1 : f1 inf l (k + 1) = f1 inf l k := by simp only [f1]; rw [if_neg h1]
      have hk : ¬ (k : Int) = (f1 inf l k).2 := by omega
      rw [if_neg h1, e1]
      simp only [s2]
      rw [if_neg hk]
      split <;> rfl

theorem f1_self (inf : Nat) (hi : double.order inf inf = some .eq) (l : List Nat) : ∀ k, double.order (f1 inf l k).1 (f1 inf l k).1 = some .eq
  | 0 => hi
  | k + 1 => by
    simp only [f1]
    split
    · rename_i h; exact ltB_self h
    · exact f1_self inf hi l k

theorem s2_self (inf : Nat) (hi : double.order inf inf = some .eq) (l : List Nat) (idx : Int) : ∀ k, double.order (s2 inf l idx k) (s2 inf l idx k) = some .eq
  | 0 => hi
  | k + 1 => by
    simp only [s2]
    split
    · exact s2_self inf hi l idx k
    · split
      · rename_i h; exact ltB_self h
      · exact s2_self inf hi l idx k
end Go.Proofs.Qxb6600036aMods.Plain
