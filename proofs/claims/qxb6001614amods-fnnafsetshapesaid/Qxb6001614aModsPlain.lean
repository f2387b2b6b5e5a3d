/-
  THE PLAIN LAWS UNDER FnNafSetValue AND FnNafSetShape: numbers and lists, no Go text. (An AI prover, Nov 15 2026.)
  'ev b l': the number that the digits 'l', lowest first, write to the base 'b'. 'kv l': the same of bytes, to the base 256, as a natural number. 'wordsOf K': the six 64-bit words of K. 'Inv': what holds at the head of each round of (*naf).set's second loop. 'Naf': what it leaves.
-/
namespace Go.Proofs.Qxb6001614aMods.Plain

def ev (b : Int) : List Int → Int
  | [] => 0
  | x :: r => x + b * ev b r

theorem ev_set (b : Int) : ∀ (l : List Int) (i : Nat) (v : Int), i < l.length → ev b (l.set i v) = ev b l + (v - l.getD i 0) * b ^ i
  | [], i, v, h => by simp at h
  | x :: r, 0, v, _ => by simp [ev]; omega
  | x :: r, i + 1, v, h => by
    have ih := ev_set b r i v (by simpa using h)
    simp only [List.set_cons_succ, ev, ih, List.getD_cons_succ]
    rw [Int.mul_add, ← Int.add_assoc, Int.pow_succ]
    congr 1
    rw [Int.mul_left_comm, Int.mul_comm b (b ^ i)]

theorem ev_zeros (b : Int) : ∀ n : Nat, ev b (List.replicate n 0) = 0
  | 0 => rfl
  | n + 1 => by simp [List.replicate_succ, ev, ev_zeros b n]

/-- The bytes' number. -/
def kv : List Int → Nat
  | [] => 0
  | x :: r => x.toNat + 256 * kv r

theorem kv_snoc : ∀ (l : List Int) (x : Int), kv (l ++ [x]) = 256 ^ l.length * x.toNat + kv l
  | [], x => by simp [kv]
  | y :: r, x => by
    have ih := kv_snoc r x
    simp only [List.cons_append, kv, ih, List.length_cons, Nat.pow_succ, Nat.mul_add]
    have : 256 * (256 ^ r.length * x.toNat) = 256 ^ r.length * 256 * x.toNat := by rw [Nat.mul_comm (256 ^ r.length) 256, Nat.mul_assoc]
    omega

theorem kv_lt : ∀ (l : List Int), (∀ x ∈ l, 0 ≤ x ∧ x < 256) → kv l < 256 ^ l.length
  | [], _ => by simp [kv]
  | x :: r, h => by
    have ih := kv_lt r (fun y hy => h y (by simp [hy]))
    have hx := h x (by simp)
    simp only [kv, List.length_cons, Nat.pow_succ]
    omega

theorem pow256 (n : Nat) : 256 ^ n = 2 ^ (8 * n) := by rw [Nat.pow_mul]

theorem kv_ev : ∀ (l : List Int), (∀ x ∈ l, 0 ≤ x ∧ x < 256) → (kv l : Int) = ev 256 l
  | [], _ => rfl
  | x :: r, h => by
    have ih := kv_ev r (fun y hy => h y (by simp [hy]))
    have hx := h x (by simp)
    simp only [kv, ev]
    omega

/-! ### The six words -/
def wordsOf (K : Nat) : List Int := (List.range 6).map fun j => ((K / 2 ^ (64 * j) % 2 ^ 64 : Nat) : Int)

theorem wordsOf_length (K : Nat) : (wordsOf K).length = 6 := by simp [wordsOf]

theorem wordsOf_get (K j : Nat) (h : j < 6) : (wordsOf K).getD j 0 = ((K / 2 ^ (64 * j) % 2 ^ 64 : Nat) : Int) := by
  simp [wordsOf, h]

theorem wordsOf_getElem (K j : Nat) (h : j < (wordsOf K).length) : (wordsOf K)[j] = ((K / 2 ^ (64 * j) % 2 ^ 64 : Nat) : Int) := by
  simp only [wordsOf, List.getElem_map, List.getElem_range]

theorem wordsOf_zero : wordsOf 0 = List.replicate 6 0 := by simp [wordsOf]; decide

theorem word_bit (K j m : Nat) : (K / 2 ^ (64 * j) % 2 ^ 64).testBit m = (decide (m < 64) && K.testBit (64 * j + m)) := by
  rw [Nat.testBit_mod_two_pow, Nat.testBit_div_two_pow, Nat.add_comm]

theorem testBit_small {x i n : Nat} (hx : x < 2 ^ n) (h : n ≤ i) : x.testBit i = false :=
  Nat.testBit_lt_two_pow (Nat.lt_of_lt_of_le hx (Nat.pow_le_pow_right (by omega) h))

/-- One byte more: the word that holds it. -/
theorem word_in (K k x : Nat) (hK : K < 2 ^ (8 * k)) (hx : x < 256) :
    (2 ^ (8 * k) * x + K) / 2 ^ (64 * (k / 8)) % 2 ^ 64 = (K / 2 ^ (64 * (k / 8)) % 2 ^ 64) ||| (x * 2 ^ (8 * (k % 8))) := by
  apply Nat.eq_of_testBit_eq
  intro m
  rw [word_bit, Nat.testBit_or, word_bit, Nat.testBit_two_pow_mul_add _ hK, Nat.testBit_mul_two_pow]
  have e : 8 * k = 64 * (k / 8) + 8 * (k % 8) := by omega
  have hk8 : k % 8 ≤ 7 := by omega
  by_cases hm : m < 64
  · by_cases h : m < 8 * (k % 8)
    · rw [if_pos (by omega)]
      have h' : ¬ 8 * (k % 8) ≤ m := by omega
      simp [hm, h']
    · rw [if_neg (by omega)]
      have h' : 8 * (k % 8) ≤ m := by omega
      have e2 : 64 * (k / 8) + m - 8 * k = m - 8 * (k % 8) := by omega
      have e3 : K.testBit (64 * (k / 8) + m) = false := testBit_small hK (by omega)
      simp [hm, h', e2, e3]
  · have e3 : x.testBit (m - 8 * (k % 8)) = false := testBit_small (n := 8) (by simpa using hx) (by omega)
    simp [hm, e3]

/-- .. and the other words. -/
theorem word_out (K k x j : Nat) (hK : K < 2 ^ (8 * k)) (hx : x < 256) (hj : j ≠ k / 8) :
    (2 ^ (8 * k) * x + K) / 2 ^ (64 * j) % 2 ^ 64 = K / 2 ^ (64 * j) % 2 ^ 64 := by
  apply Nat.eq_of_testBit_eq
  intro m
  rw [word_bit, word_bit, Nat.testBit_two_pow_mul_add _ hK]
  by_cases hm : m < 64
  · by_cases h : 64 * j + m < 8 * k
    · rw [if_pos h]
    · rw [if_neg h]
      have e1 : x.testBit (64 * j + m - 8 * k) = false := testBit_small (n := 8) (by simpa using hx) (by omega)
      have e2 : K.testBit (64 * j + m) = false := testBit_small hK (by omega)
      rw [e1, e2]
  · simp [hm]

theorem words_step (K k x : Nat) (hK : K < 2 ^ (8 * k)) (hx : x < 256) :
    (wordsOf K).set (k / 8) ((((K / 2 ^ (64 * (k / 8)) % 2 ^ 64) ||| (x * 2 ^ (8 * (k % 8))) : Nat)) : Int) = wordsOf (2 ^ (8 * k) * x + K) := by
  apply List.ext_getElem
  · simp [wordsOf]
  · intro j h1 h2
    simp [wordsOf] at h1
    rw [List.getElem_set]
    by_cases hj : k / 8 = j
    · subst hj
      rw [if_pos rfl, ← word_in K k x hK hx, wordsOf_getElem]
    · rw [if_neg hj]
      have := word_out K k x j hK hx (fun e => hj e.symm)
      rw [wordsOf_getElem, wordsOf_getElem, this]

/-! ### The window -/
theorem window_one (K pos w : Nat) (h : pos % 64 + w ≤ 64) :
    (K / 2 ^ (64 * (pos / 64)) % 2 ^ 64) / 2 ^ (pos % 64) % 2 ^ w = K / 2 ^ pos % 2 ^ w := by
  apply Nat.eq_of_testBit_eq
  intro m
  rw [Nat.testBit_mod_two_pow, Nat.testBit_mod_two_pow, Nat.testBit_div_two_pow, word_bit, Nat.testBit_div_two_pow]
  by_cases hm : m < w
  · have h1 : m + pos % 64 < 64 := by omega
    have e : 64 * (pos / 64) + (m + pos % 64) = m + pos := by omega
    simp [hm, h1, e]
  · simp [hm]

theorem window_two (K pos w : Nat) (hw : w ≤ 8) (h : 64 < pos % 64 + w) :
    ((K / 2 ^ (64 * (pos / 64)) % 2 ^ 64) / 2 ^ (pos % 64) ||| (K / 2 ^ (64 * (pos / 64 + 1)) % 2 ^ 64) * 2 ^ (64 - pos % 64) % 2 ^ 64) % 2 ^ w = K / 2 ^ pos % 2 ^ w := by
  apply Nat.eq_of_testBit_eq
  intro m
  rw [Nat.testBit_mod_two_pow, Nat.testBit_mod_two_pow, Nat.testBit_or, Nat.testBit_div_two_pow, word_bit, Nat.testBit_mod_two_pow, Nat.testBit_mul_two_pow, word_bit, Nat.testBit_div_two_pow]
  by_cases hm : m < w
  · have hm64 : m < 64 := by omega
    by_cases h1 : m + pos % 64 < 64
    · have e : 64 * (pos / 64) + (m + pos % 64) = m + pos := by omega
      have h2 : ¬ 64 - pos % 64 ≤ m := by omega
      simp [hm, h1, e, h2]
    · have h2 : 64 - pos % 64 ≤ m := by omega
      have h3 : m - (64 - pos % 64) < 64 := by omega
      have e : 64 * (pos / 64 + 1) + (m - (64 - pos % 64)) = m + pos := by omega
      simp [hm, h1, e, h2, h3, hm64]
  · simp [hm]

/-! ### The digits -/
theorem getD_set (l : List Int) (i j : Nat) (v : Int) (h : i < l.length) : (l.set i v).getD j 0 = if i = j then v else l.getD j 0 := by
  simp only [List.getD_eq_getElem?_getD, List.getElem?_set]
  split
  · simp_all
  · rfl

/-- What holds at the head of each round: 'pos' is the next place, 'c' the carry, 'L' the length so far, 'd' the digits. -/
structure Inv (K w pos c L : Nat) (d : List Int) : Prop where
  len : d.length = 257
  c01 : c ≤ 1
  val : ev 2 d + c * 2 ^ pos = (K % 2 ^ pos : Nat)
  big : c = 1 → 2 ^ pos ≤ 2 * K
  lle : L ≤ 257
  zero : ∀ i, L ≤ i → d.getD i 0 = 0
  top : L = 0 ∨ (d.getD (L - 1) 0 ≠ 0 ∧ L - 1 + w ≤ pos ∧ 2 ^ (L - 1) ≤ 2 * K)
  odd : ∀ i, d.getD i 0 = 0 ∨ (d.getD i 0 % 2 = 1 ∧ -(2 ^ (w - 1) : Nat) < d.getD i 0 ∧ d.getD i 0 < (2 ^ (w - 1) : Nat))
  gap : ∀ i j, i < j → d.getD i 0 ≠ 0 → d.getD j 0 ≠ 0 → i + w ≤ j

theorem inv_start (K w : Nat) : Inv K w 0 0 0 (List.replicate 257 0) := by
  have hz : ∀ i, (List.replicate 257 (0 : Int)).getD i 0 = 0 := by
    intro i
    simp only [List.getD_eq_getElem?_getD, List.getElem?_replicate]
    split <;> rfl
  refine ⟨List.length_replicate, by omega, ?_, by omega, by omega, fun i _ => hz i, .inl rfl, fun i => .inl (hz i), fun i j _ h => absurd (hz i) h⟩
  rw [ev_zeros]; simp

theorem mod_succ (K pos : Nat) : K % 2 ^ (pos + 1) = K % 2 ^ pos + 2 ^ pos * (K / 2 ^ pos % 2) := by
  rw [Nat.pow_succ, Nat.mod_mul]

theorem mod_add (K pos w : Nat) : K % 2 ^ (pos + w) = K % 2 ^ pos + 2 ^ pos * (K / 2 ^ pos % 2 ^ w) := by
  rw [Nat.pow_add, Nat.mod_mul]

theorem pow_pred (w : Nat) (hw : 1 ≤ w) : 2 ^ w = 2 * 2 ^ (w - 1) := by
  obtain ⟨v, rfl⟩ : ∃ v, w = v + 1 := ⟨w - 1, by omega⟩
  simp [Nat.pow_succ]; omega

theorem low_bit (K pos w : Nat) (hw : 1 ≤ w) : K / 2 ^ pos % 2 ^ w % 2 = K / 2 ^ pos % 2 := by
  rw [pow_pred w hw, Nat.mod_mul_right_mod]

theorem step_even {K w pos c L : Nat} {d : List Int} (h : Inv K w pos c L d) (hw : 1 ≤ w) (he : (K / 2 ^ pos % 2 ^ w + c) % 2 = 0) : Inv K w (pos + 1) c L d := by
  have hb := low_bit K pos w hw
  have hc := h.c01
  have hbit : K / 2 ^ pos % 2 = c := by omega
  refine ⟨h.len, h.c01, ?_, ?_, h.lle, h.zero, ?_, h.odd, h.gap⟩
  · have hv := h.val
    rw [mod_succ, hbit]
    have e : (c : Int) * 2 ^ (pos + 1) = c * 2 ^ pos + c * 2 ^ pos := by rw [Int.pow_succ, ← Int.mul_assoc]; omega
    rw [e]
    have e2 : ((2 ^ pos * c : Nat) : Int) = c * 2 ^ pos := by push_cast; rw [Int.mul_comm]
    rw [Int.natCast_add, e2]
    omega
  · intro h1
    subst h1
    have hge : 1 ≤ K / 2 ^ pos := by
      generalize K / 2 ^ pos = q at hbit
      omega
    have := (Nat.le_div_iff_mul_le (Nat.two_pow_pos pos)).1 hge
    rw [Nat.pow_succ]; omega
  · rcases h.top with h0 | ⟨a, b, e⟩
    · exact .inl h0
    · exact .inr ⟨a, by omega, e⟩

theorem step_odd {K w pos c L : Nat} {d : List Int} (h : Inv K w pos c L d) (hw : 2 ≤ w) (hp : pos ≤ 256) (m : Nat) (hm : m = K / 2 ^ pos % 2 ^ w) (ho : (m + c) % 2 = 1)
    (c' : Nat) (hc' : c' = if 2 ^ (w - 1) ≤ m + c then 1 else 0) : Inv K w (pos + w) c' (pos + 1) (d.set pos ((m : Int) + c - c' * (2 ^ w : Nat))) := by
  have hlp : L ≤ pos := by rcases h.top with h0 | ⟨_, b, _⟩ <;> omega
  have hz : d.getD pos 0 = 0 := h.zero pos hlp
  have hl : pos < d.length := by rw [h.len]; omega
  have hc := h.c01
  have hmw : m < 2 ^ w := by rw [hm]; exact Nat.mod_lt _ (Nat.two_pow_pos w)
  have hpw := pow_pred w (by omega)
  have hev : 2 ^ (w - 1) % 2 = 0 := by rw [pow_pred (w - 1) (by omega)]; omega
  have hpos := Nat.two_pow_pos pos
  have hc'1 : c' ≤ 1 := by rw [hc']; split <;> omega
  have hmK : m ≤ K / 2 ^ pos := by rw [hm]; exact Nat.mod_le _ _
  have hmK2 : m * 2 ^ pos ≤ K := (Nat.le_div_iff_mul_le hpos).1 hmK
  -- the new digit
  have hv : ((m : Int) + c - c' * (2 ^ w : Nat)) % 2 = 1 ∧ -(2 ^ (w - 1) : Nat) < ((m : Int) + c - c' * (2 ^ w : Nat)) ∧ ((m : Int) + c - c' * (2 ^ w : Nat)) < (2 ^ (w - 1) : Nat) := by
    generalize 2 ^ (w - 1) = Q at *
    generalize 2 ^ w = R at *
    subst hpw
    rw [hc']
    split <;> simp <;> omega
  generalize hvv : (m : Int) + c - c' * (2 ^ w : Nat) = v at hv ⊢
  have hv0 : v ≠ 0 := by omega
  refine ⟨by simp [h.len], hc'1, ?_, ?_, by omega, ?_, .inr ⟨?_, by omega, ?_⟩, ?_, ?_⟩
  · rw [ev_set 2 d pos v hl, hz, mod_add, ← hm, ← hvv]
    have hval := h.val
    have e : ((2 : Int) ^ (pos + w)) = 2 ^ pos * (2 ^ w : Nat) := by push_cast; rw [Int.pow_add]
    rw [e]
    push_cast at hval ⊢
    generalize (2 : Int) ^ pos = A at *
    generalize (2 : Int) ^ w = B at *
    have e1 : ((m : Int) + c - c' * B - 0) * A = m * A + c * A - c' * B * A := by rw [Int.sub_zero, Int.sub_mul, Int.add_mul]
    have e2 : (c' : Int) * (A * B) = c' * B * A := by rw [Int.mul_comm A B, Int.mul_assoc]
    have e3 : A * (m : Int) = m * A := Int.mul_comm _ _
    rw [e1, e2, e3]
    omega
  · intro h1
    have hge : 2 ^ (w - 1) ≤ m + c := by
      rw [hc'] at h1
      split at h1
      · assumption
      · omega
    have hge2 : 2 ^ (w - 1) ≤ m := by omega
    have : 2 ^ (w - 1) * 2 ^ pos ≤ m * 2 ^ pos := Nat.mul_le_mul_right _ hge2
    rw [Nat.add_comm pos w, Nat.pow_add, hpw, Nat.mul_assoc]
    omega
  · intro i hi
    rw [getD_set d pos i v hl, if_neg (by omega)]
    exact h.zero i (by omega)
  · rw [Nat.add_sub_cancel, getD_set d pos pos v hl, if_pos rfl]; exact hv0
  · rw [Nat.add_sub_cancel]
    rcases (by omega : c = 1 ∨ c = 0) with h1 | h1
    · exact h.big h1
    · have : 1 * 2 ^ pos ≤ m * 2 ^ pos := Nat.mul_le_mul_right _ (by omega)
      omega
  · intro i
    rw [getD_set d pos i v hl]
    split
    · exact .inr hv
    · exact h.odd i
  · intro i j hij
    rw [getD_set d pos i v hl, getD_set d pos j v hl]
    intro hi hj
    by_cases hjp : pos = j
    · subst hjp
      rw [if_neg (by omega)] at hi
      rcases h.top with h0 | ⟨_, b, _⟩
      · exact absurd (h.zero i (by omega)) hi
      · have : i < L := by
          rcases Nat.lt_or_ge i L with g | g
          · exact g
          · exact absurd (h.zero i g) hi
        omega
    · rw [if_neg hjp] at hj
      have hjL : j < L := by
        rcases Nat.lt_or_ge j L with g | g
        · exact g
        · exact absurd (h.zero j g) hj
      rw [if_neg (by omega)] at hi
      exact h.gap i j hij hi hj

/-- What (*naf).set leaves. -/
structure Naf (K w L : Nat) (d : List Int) : Prop where
  len : d.length = 257
  val : ev 2 d = K
  lle : L ≤ 257
  zero : ∀ i, L ≤ i → d.getD i 0 = 0
  top : L = 0 ∨ (d.getD (L - 1) 0 ≠ 0 ∧ 2 ^ (L - 1) ≤ 2 * K)
  odd : ∀ i, d.getD i 0 = 0 ∨ (d.getD i 0 % 2 = 1 ∧ -(2 ^ (w - 1) : Nat) < d.getD i 0 ∧ d.getD i 0 < (2 ^ (w - 1) : Nat))
  gap : ∀ i j, i < j → d.getD i 0 ≠ 0 → d.getD j 0 ≠ 0 → i + w ≤ j

theorem inv_done {K w pos c L n : Nat} {d : List Int} (h : Inv K w pos c L d) (hp : 8 * n < pos) (hK : K < 2 ^ (8 * n)) : Naf K w L d := by
  have hle : 2 ^ (8 * n) * 2 ≤ 2 ^ pos := by
    rw [← Nat.pow_succ]
    exact Nat.pow_le_pow_right (by omega) hp
  have hc : c = 0 := by
    have := h.c01
    rcases (by omega : c = 1 ∨ c = 0) with h1 | h1
    · have := h.big h1; omega
    · exact h1
  refine ⟨h.len, ?_, h.lle, h.zero, ?_, h.odd, h.gap⟩
  · have hv := h.val
    rw [hc, Nat.mod_eq_of_lt (by omega)] at hv
    simpa using hv
  · rcases h.top with h0 | ⟨a, _, e⟩
    · exact .inl h0
    · exact .inr ⟨a, e⟩
end Go.Proofs.Qxb6001614aMods.Plain
