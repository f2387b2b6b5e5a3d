/-
  THE MODEL's BIT OPERATIONS ON uint64, AS THE WALKS OVER vrf SPELL THEM, TIED TO THE PLAIN LAWS. (An AI prover, Nov 15 2026.)
-/
import Derived.Test.Qxb6001614aModsPlain
import Derived.Laws.BitsAllLaws
namespace Go.Proofs.Qxb6001614aMods.Plain
open Go

theorem two64 : (2 : Nat) ^ 64 = 18446744073709551616 := rfl

theorem lt_of_mod64 (x : Nat) : x % 2 ^ 64 < 18446744073709551616 := by rw [two64]; exact Nat.mod_lt _ (by decide)

theorem div_le64 (x s : Nat) : x % 2 ^ 64 / 2 ^ s < 18446744073709551616 := Nat.lt_of_le_of_lt (Nat.div_le_self _ _) (lt_of_mod64 x)

theorem cast_div (a s : Nat) : (a : Int) / 2 ^ s = ((a / 2 ^ s : Nat) : Int) := by
  rw [Int.natCast_ediv, Int.natCast_pow]; rfl

theorem wrap_cast (a s : Nat) : IntKind.u64.wrap ((a : Int) * 2 ^ s) = ((a * 2 ^ s % 2 ^ 64 : Nat) : Int) := by
  rw [IntKind.wrap_u64, Int.natCast_emod, Int.natCast_mul, Int.natCast_pow, two64]; rfl

theorem pow_le_256 (w : Nat) (hw : w ≤ 8) : 2 ^ w ≤ 256 := Nat.pow_le_pow_right (n := 2) (by decide) hw

theorem mask_cast (w : Nat) : (((2 ^ w : Nat) : Int) - 1) = ((2 ^ w - 1 : Nat) : Int) := by
  have := Nat.two_pow_pos w
  omega

theorem win_one (K pos w : Nat) (hw : w ≤ 8) (h : ¬ 64 < pos % 64 + w) (W : Int) (hW : W = (2 ^ w : Nat)) :
    bits .and .u64 (((K / 2 ^ (64 * (pos / 64)) % 2 ^ 64 : Nat) : Int) / 2 ^ (pos % 64)) (W - 1) = ((K / 2 ^ pos % 2 ^ w : Nat) : Int) := by
  subst hW
  have hp := pow_le_256 w hw
  rw [cast_div, mask_cast, u64_and_nat _ _ (div_le64 _ _) (by omega), Nat.and_two_pow_sub_one_eq_mod, window_one K pos w (by omega)]

theorem win_two (K pos w : Nat) (hw : w ≤ 8) (h : 64 < pos % 64 + w) (W : Int) (hW : W = (2 ^ w : Nat)) :
    bits .and .u64 (bits .or .u64 (((K / 2 ^ (64 * (pos / 64)) % 2 ^ 64 : Nat) : Int) / 2 ^ (pos % 64)) (IntKind.u64.wrap (((K / 2 ^ (64 * (pos / 64 + 1)) % 2 ^ 64 : Nat) : Int) * 2 ^ (64 - pos % 64)))) (W - 1)
      = ((K / 2 ^ pos % 2 ^ w : Nat) : Int) := by
  subst hW
  have hp := pow_le_256 w hw
  have hor : (K / 2 ^ (64 * (pos / 64)) % 2 ^ 64) / 2 ^ (pos % 64) ||| (K / 2 ^ (64 * (pos / 64 + 1)) % 2 ^ 64) * 2 ^ (64 - pos % 64) % 2 ^ 64 < 18446744073709551616 := by
    rw [← two64]
    refine Nat.or_lt_two_pow ?_ (Nat.mod_lt _ (Nat.two_pow_pos 64))
    rw [two64]; exact div_le64 _ _
  rw [cast_div, wrap_cast, u64_or_nat _ _ (div_le64 _ _) (lt_of_mod64 _), mask_cast, u64_and_nat _ _ hor (by omega), Nat.and_two_pow_sub_one_eq_mod, window_two K pos w hw h]

theorem and_one (x : Int) (h0 : 0 ≤ x) (h1 : x < 18446744073709551616) : bits .and .u64 x 1 = x % 2 := by
  rw [u64_and x 1 h0 h1 (by decide) (by decide)]
  simp only [Int.reduceToNat, Nat.and_one_is_mod]
  omega

/-- The word that one byte more goes into, as the walk spells it. -/
theorem word_or (K k x : Nat) (hx : x < 256) :
    bits .or .u64 ((K / 2 ^ (64 * (k / 8)) % 2 ^ 64 : Nat) : Int) (IntKind.u64.wrap ((x : Int) * 2 ^ (8 * (k % 8)))) = (((K / 2 ^ (64 * (k / 8)) % 2 ^ 64) ||| (x * 2 ^ (8 * (k % 8))) : Nat) : Int) := by
  have hb : x * 2 ^ (8 * (k % 8)) < 18446744073709551616 := by
    have h1 : 2 ^ (8 * (k % 8)) ≤ 2 ^ 56 := Nat.pow_le_pow_right (by decide) (by omega)
    have h2 : x * 2 ^ (8 * (k % 8)) ≤ 255 * 2 ^ 56 := Nat.mul_le_mul (by omega) h1
    omega
  have e2 : IntKind.u64.wrap ((x : Int) * 2 ^ (8 * (k % 8))) = ((x * 2 ^ (8 * (k % 8)) : Nat) : Int) := by
    rw [IntKind.wrap_u64]
    have e3 : (x : Int) * 2 ^ (8 * (k % 8)) = ((x * 2 ^ (8 * (k % 8)) : Nat) : Int) := by push_cast; rfl
    rw [e3]
    omega
  rw [e2, u64_or_nat _ _ (lt_of_mod64 _) hb]

theorem and_255 (v : Nat) (h : v < 18446744073709551616) : bits .and .u64 (v : Int) 255 = ((v % 256 : Nat) : Int) := by
  have := u64_and_nat v 255 h (by decide)
  rw [nat_mask8] at this
  exact this

/-! ### One byte of a sum: 'addShifted' -/
/-- Each of 'l' is a byte. -/
def Byt (l : List Int) : Prop := ∀ j, 0 ≤ l.getD j 0 ∧ l.getD j 0 < 256

theorem Byt.set {l : List Int} (h : Byt l) (i : Nat) (v : Int) (hv : 0 ≤ v ∧ v < 256) : Byt (l.set i v) := by
  intro j
  by_cases hi : i < l.length
  · rw [getD_set l i j v hi]
    split
    · exact hv
    · exact h j
  · rw [List.set_eq_of_length_le (by omega)]
    exact h j

theorem Byt.zeros (n : Nat) : Byt (List.replicate n 0) := by
  intro j
  simp only [List.getD_eq_getElem?_getD, List.getElem?_replicate]
  split <;> simp

theorem Byt.tail {x : Int} {l : List Int} (h : Byt (x :: l)) : Byt l := fun j => by simpa using h (j + 1)

theorem Byt.ev : ∀ {l : List Int}, Byt l → 0 ≤ ev 256 l ∧ ev 256 l < 256 ^ l.length
  | [], _ => by simp [Plain.ev]
  | x :: r, h => by
    have ih := Byt.ev h.tail
    have hx : 0 ≤ x ∧ x < 256 := by simpa using h 0
    simp only [Plain.ev, List.length_cons, Int.pow_succ]
    omega

/-- Two rows of bytes of one length that write one number are one. -/
theorem Byt.inj : ∀ {l m : List Int}, Byt l → Byt m → l.length = m.length → Plain.ev 256 l = Plain.ev 256 m → l = m
  | [], [], _, _, _, _ => rfl
  | [], _ :: _, _, _, h, _ => by simp at h
  | _ :: _, [], _, _, h, _ => by simp at h
  | x :: r, y :: t, hl, hm, h, he => by
    have hx : 0 ≤ x ∧ x < 256 := by simpa using hl 0
    have hy : 0 ≤ y ∧ y < 256 := by simpa using hm 0
    simp only [Plain.ev] at he
    have e1 : x = y := by omega
    have e2 := Byt.inj hl.tail hm.tail (by simpa using h) (by omega)
    rw [e1, e2]

theorem add_step (g : List Int) (j v : Nat) (hj : j < g.length) (T : Int) (h : ev 256 g + v * 256 ^ j = T) (a : Nat) (ha : g.getD j 0 = a) :
    ev 256 (g.set j (((a + v % 256) % 256 : Nat) : Int)) + ((v / 256 + (a + v % 256) / 256 : Nat) : Int) * 256 ^ (j + 1) = T := by
  rw [ev_set 256 g j _ hj, ha, ← h, Int.pow_succ]
  generalize (256 : Int) ^ j = A
  have e1 : ((v / 256 + (a + v % 256) / 256 : Nat) : Int) * (A * 256) = (((v / 256 + (a + v % 256) / 256 : Nat) : Int) * 256) * A := by rw [Int.mul_comm A 256, Int.mul_assoc]
  rw [e1, Int.add_assoc, ← Int.add_mul]
  congr 2
  omega

theorem add_start (D i : Nat) : ((D * 2 ^ (i % 8) : Nat) : Int) * 256 ^ (i / 8) = D * 2 ^ i := by
  have e : (256 : Int) ^ (i / 8) = 2 ^ (8 * (i / 8)) := by rw [Int.pow_mul]; rfl
  rw [e, Int.natCast_mul, Int.natCast_pow, Int.mul_assoc]
  congr 1
  show (2 : Int) ^ (i % 8) * 2 ^ (8 * (i / 8)) = 2 ^ i
  rw [← Int.pow_add]
  congr 1
  omega
end Go.Proofs.Qxb6001614aMods.Plain
