/-
  THE PLAIN LAWS OF THE SUMS IN FnNafSetValue: the positive digits' number, the negative digits' number, a sum byte by byte; and the bit operations on int that the two laws use. (An AI prover, Nov 15 2026.)
-/
import Derived.Test.Qxb6001614aModsBits
import Derived.Laws.Bits128
namespace Go.Proofs.Qxb6001614aMods.Plain
open Go

theorem i64_and255 (n : Int) : bits .and .i64 n 255 = n % 256 := by
  have h255 : (BitVec.ofInt 64 255).toNat = 2 ^ 8 - 1 := by decide
  have key : (BitVec.ofInt 64 n &&& BitVec.ofInt 64 255).toNat = (n % ((2 ^ 64 : Nat) : Int)).toNat % 2 ^ 8 := by
    rw [BitVec.toNat_and, BitVec.toNat_ofInt, h255, Nat.and_two_pow_sub_one_eq_mod]
  show IntKind.i64.wrap ((BitVec.ofInt 64 n &&& BitVec.ofInt 64 255).toNat : Nat) = n % 256
  rw [key, IntKind.wrap_i64]
  omega

theorem i64_and1 (n : Int) : bits .and .i64 n 1 = n % 2 := by
  have h1 : (BitVec.ofInt 64 1).toNat = 2 ^ 1 - 1 := by decide
  have key : (BitVec.ofInt 64 n &&& BitVec.ofInt 64 1).toNat = (n % ((2 ^ 64 : Nat) : Int)).toNat % 2 ^ 1 := by
    rw [BitVec.toNat_and, BitVec.toNat_ofInt, h1, Nat.and_two_pow_sub_one_eq_mod]
  show IntKind.i64.wrap ((BitVec.ofInt 64 n &&& BitVec.ofInt 64 1).toNat : Nat) = n % 2
  rw [key, IntKind.wrap_i64]
  omega

theorem ev_snoc (b : Int) : ∀ (l : List Int) (x : Int), ev b (l ++ [x]) = ev b l + x * b ^ l.length
  | [], x => by simp [ev]
  | y :: r, x => by
    simp only [List.cons_append, ev, ev_snoc b r x, List.length_cons, Int.pow_succ, Int.mul_add]
    rw [Int.mul_left_comm, Int.mul_comm b (b ^ r.length), Int.add_assoc]

/-- One digit more (or none, beyond the end). -/
theorem ev_take_succ (b : Int) (l : List Int) (j : Nat) : ev b (l.take (j + 1)) = ev b (l.take j) + l.getD j 0 * b ^ j := by
  by_cases h : j < l.length
  · rw [List.take_succ_eq_append_getElem h, ev_snoc, List.length_take_of_le (by omega)]
    simp [List.getD_eq_getElem?_getD, List.getElem?_eq_getElem h]
  · rw [List.take_of_length_le (by omega), List.take_of_length_le (by omega)]
    simp [List.getD_eq_getElem?_getD, List.getElem?_eq_none (show l.length ≤ j by omega)]

/-- The positive digits' number, the first i digits taken; the negative digits'. -/
def pp (x : Int) : Int := if 0 < x then x else 0
def nn (x : Int) : Int := if x < 0 then -x else 0
def P (d : List Int) : Nat → Int
  | 0 => 0
  | i + 1 => P d i + pp (d.getD i 0) * 2 ^ i
def N (d : List Int) : Nat → Int
  | 0 => 0
  | i + 1 => N d i + nn (d.getD i 0) * 2 ^ i

theorem PN (d : List Int) : ∀ i, ev 2 (d.take i) = P d i - N d i
  | 0 => by simp [ev, P, N]
  | i + 1 => by
    rw [ev_take_succ, PN d i]
    simp only [P, N]
    have e : d.getD i 0 = pp (d.getD i 0) - nn (d.getD i 0) := by unfold pp nn; split <;> split <;> omega
    generalize d.getD i 0 = x at *
    have e2 : x * 2 ^ i = pp x * 2 ^ i - nn x * 2 ^ i := by rw [← Int.sub_mul, ← e]
    omega

theorem two_pow_pos' (i : Nat) : (1 : Int) ≤ 2 ^ i := by
  have := Nat.two_pow_pos i
  have e : ((2 ^ i : Nat) : Int) = 2 ^ i := by rw [Int.natCast_pow]; rfl
  omega

theorem P_bd (d : List Int) (hd : ∀ i, -127 ≤ d.getD i 0 ∧ d.getD i 0 ≤ 127) : ∀ i, 0 ≤ P d i ∧ P d i ≤ 127 * 2 ^ i
  | 0 => by simp [P]
  | i + 1 => by
    have ih := P_bd d hd i
    have h1 : 0 ≤ pp (d.getD i 0) ∧ pp (d.getD i 0) ≤ 127 := by unfold pp; have := hd i; split <;> omega
    have h2 := two_pow_pos' i
    have h3 : pp (d.getD i 0) * 2 ^ i ≤ 127 * 2 ^ i := Int.mul_le_mul_of_nonneg_right h1.2 (by omega)
    have h4 : 0 ≤ pp (d.getD i 0) * 2 ^ i := Int.mul_nonneg h1.1 (by omega)
    simp only [P, Int.pow_succ]
    omega

theorem N_bd (d : List Int) (hd : ∀ i, -127 ≤ d.getD i 0 ∧ d.getD i 0 ≤ 127) : ∀ i, 0 ≤ N d i ∧ N d i ≤ 127 * 2 ^ i
  | 0 => by simp [N]
  | i + 1 => by
    have ih := N_bd d hd i
    have h1 : 0 ≤ nn (d.getD i 0) ∧ nn (d.getD i 0) ≤ 127 := by unfold nn; have := hd i; split <;> omega
    have h2 := two_pow_pos' i
    have h3 : nn (d.getD i 0) * 2 ^ i ≤ 127 * 2 ^ i := Int.mul_le_mul_of_nonneg_right h1.2 (by omega)
    have h4 : 0 ≤ nn (d.getD i 0) * 2 ^ i := Int.mul_nonneg h1.1 (by omega)
    simp only [N, Int.pow_succ]
    omega

set_option exponentiation.threshold 400 in
theorem big_lt (i : Nat) (hi : i ≤ 257) : (254 : Int) * 2 ^ i < 256 ^ 40 := by
  have h1 : 2 ^ i ≤ 2 ^ 257 := Nat.pow_le_pow_right (by decide) hi
  have e : ((2 ^ i : Nat) : Int) = 2 ^ i := by rw [Int.natCast_pow]; rfl
  have h2 : (2 : Int) ^ i ≤ 2 ^ 257 := by
    rw [← e]
    have : ((2 ^ 257 : Nat) : Int) = 2 ^ 257 := by rw [Int.natCast_pow]; rfl
    rw [← this]
    exact Int.ofNat_le.2 h1
  have h3 : (254 : Int) * 2 ^ 257 < 256 ^ 40 := by decide
  have h4 : (254 : Int) * 2 ^ i ≤ 254 * 2 ^ 257 := Int.mul_le_mul_of_nonneg_left h2 (by decide)
  exact Int.lt_of_le_of_lt h4 h3

/-- One byte of 'sum = neg + k'. -/
theorem sum_step (s gn ks : List Int) (j : Nat) (hj : j < s.length) (c : Int) (h : ev 256 (s.take j) + c * 256 ^ j = ev 256 (gn.take j) + ev 256 (ks.take j)) (v : Int) (hv : v = gn.getD j 0 + c + ks.getD j 0) :
    ev 256 ((s.set j (v % 256)).take (j + 1)) + (v / 256) * 256 ^ (j + 1) = ev 256 (gn.take (j + 1)) + ev 256 (ks.take (j + 1)) := by
  rw [ev_take_succ, ev_take_succ, ev_take_succ, getD_set s j j _ hj, if_pos rfl, List.take_set_of_le (Nat.le_refl _), Int.pow_succ]
  generalize (256 : Int) ^ j = A at *
  have e1 : v / 256 * (A * 256) = (v / 256 * 256) * A := by rw [Int.mul_comm A 256, Int.mul_assoc]
  have e2 : v % 256 * A + v / 256 * 256 * A = v * A := by rw [← Int.add_mul]; congr 1; omega
  have e3 : v * A = gn.getD j 0 * A + c * A + ks.getD j 0 * A := by rw [hv, Int.add_mul, Int.add_mul]
  rw [e1]
  omega
end Go.Proofs.Qxb6001614aMods.Plain
