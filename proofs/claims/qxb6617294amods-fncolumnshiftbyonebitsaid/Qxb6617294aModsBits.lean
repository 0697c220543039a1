/-
  Bits and columns: plain numbers, no Go in sight but the model's own words for '|', '&' and the wraps.
-/
import Derived.WalkKit
import Derived.ProofKit
namespace Go.Proofs.Qxb6617294aMods
open Go.RowKit

/-- Bit n of the bytes x, the least significant first. -/
def bitAt (x : Nat → Nat) (n : Nat) : Nat := x (n / 8) / 2 ^ (n % 8) % 2
/-- The first j bits of column (t, i). -/
def colUp (x : Nat → Nat) (t i : Nat) : Nat → Nat
  | 0 => 0
  | j + 1 => colUp x t i j + bitAt x ((t * 8 + j) * 16 + i) * 2 ^ j
/-- Column (t, i). -/
def col (x : Nat → Nat) (t i : Nat) : Nat := colUp x t i 8

theorem bitAt_le (x : Nat → Nat) (n : Nat) : bitAt x n ≤ 1 := by unfold bitAt; omega

theorem colUp_lt (x : Nat → Nat) (t i j : Nat) : colUp x t i j < 2 ^ j := by
  induction j with
  | zero => simp [colUp]
  | succ j ih =>
    have hb := bitAt_le x ((t * 8 + j) * 16 + i)
    have : bitAt x ((t * 8 + j) * 16 + i) * 2 ^ j ≤ 1 * 2 ^ j := Nat.mul_le_mul_right _ hb
    simp only [colUp, Nat.pow_succ]
    omega
theorem col_lt (x : Nat → Nat) (t i : Nat) : col x t i < 256 := colUp_lt x t i 8

theorem wrap64_small {n : Int} (h0 : 0 ≤ n) (h1 : n < 9223372036854775808) : wrap64 n = n := by unfold wrap64; omega

theorem wrap_i64_small (n : Int) (h0 : 0 ≤ n) (h1 : n < 9223372036854775808) : IntKind.i64.wrap n = n := by
  simp [IntKind.wrap, IntKind.bits, IntKind.signed]
  split <;> omega
theorem ofInt_64 (a : Nat) (ha : a < 9223372036854775808) : (BitVec.ofInt 64 (a : Int)).toNat = a := by
  rw [BitVec.ofInt_natCast, BitVec.toNat_ofNat]; exact Nat.mod_eq_of_lt (by omega)
theorem or_i64 (a b : Nat) (ha : a < 2 ^ 62) (hb : b < 2 ^ 62) : bits .or .i64 (a : Int) (b : Int) = ((a ||| b : Nat) : Int) := by
  have hx : a ||| b < 2 ^ 62 := Nat.or_lt_two_pow ha hb
  show IntKind.i64.wrap ((BitVec.ofInt 64 (a : Int) ||| BitVec.ofInt 64 (b : Int)).toNat : Int) = _
  rw [BitVec.toNat_or, ofInt_64 a (by omega), ofInt_64 b (by omega)]
  exact wrap_i64_small _ (by omega) (by omega)
theorem and_i64 (a b : Nat) (ha : a < 2 ^ 62) (hb : b < 2 ^ 62) : bits .and .i64 (a : Int) (b : Int) = ((a &&& b : Nat) : Int) := by
  have hx : a &&& b < 2 ^ 62 := Nat.and_lt_two_pow _ hb
  show IntKind.i64.wrap ((BitVec.ofInt 64 (a : Int) &&& BitVec.ofInt 64 (b : Int)).toNat : Int) = _
  rw [BitVec.toNat_and, ofInt_64 a (by omega), ofInt_64 b (by omega)]
  exact wrap_i64_small _ (by omega) (by omega)

/-- A number below 2^k and a multiple of 2^k: '|' adds them. -/
theorem or_add (k c m : Nat) (h : c < 2 ^ k) : c ||| m * 2 ^ k = c + m * 2 ^ k := by
  rw [Nat.or_comm, Nat.mul_comm m, ← Nat.two_pow_add_eq_or_of_lt h, Nat.add_comm]

theorem and1_u8 (a : Nat) (h : a < 256) : bits .and .u8 (a : Int) 1 = ((a % 2 : Nat) : Int) := by
  have := u8_and_nat a 1 h (by omega)
  rw [Nat.and_one_is_mod] at this
  exact this
theorem and1_i64 (a : Nat) (h : a < 256) : bits .and .i64 (a : Int) 1 = ((a % 2 : Nat) : Int) := by
  have := and_i64 a 1 (by omega) (by omega)
  rw [Nat.and_one_is_mod] at this
  exact this

theorem half_bit {A M : Nat} (hA : A < 256) : A / 2 ^ M < 256 := Nat.lt_of_le_of_lt (Nat.div_le_self _ _) hA
theorem put_lt {q k : Nat} (hk : k < 8) : q % 2 * 2 ^ k < 256 := by
  have h3 : 2 ^ k ≤ 2 ^ 7 := Nat.pow_le_pow_right (by omega) (by omega)
  have h4 : q % 2 * 2 ^ k ≤ 1 * 2 ^ k := Nat.mul_le_mul_right _ (by omega)
  omega
theorem low_lt {c k : Nat} (hk : k < 8) (hc : c < 2 ^ k) : c < 256 := by
  have h3 : 2 ^ k ≤ 2 ^ 7 := Nat.pow_le_pow_right (by omega) (by omega)
  omega
theorem or_put (c q k : Nat) (hk : k < 8) (hc : c < 2 ^ k) : bits .or .i64 (c : Int) (wrap64 (wrap64 ((q % 2 : Nat) : Int) * 2 ^ k)) = ((c + q % 2 * 2 ^ k : Nat) : Int) := by
  have h1 := put_lt (q := q) hk
  have h2 := low_lt hk hc
  generalize hm : q % 2 * 2 ^ k = m at h1
  have h5 : wrap64 ((q % 2 : Nat) : Int) * 2 ^ k = (m : Int) := by
    rw [wrap64_small (by omega) (by omega), ← hm]; simp
  have h6 := or_i64 c m (by omega) (by omega)
  rw [h5, wrap64_small (by omega) (by omega), h6, ← hm, or_add k c _ hc]

/-- One round of 'column': the bit is laid behind those that are there. -/
theorem col_step (c A M k : Nat) (hA : A < 256) (hk : k < 8) (hc : c < 2 ^ k) :
    bits .or .i64 (c : Int) (wrap64 (wrap64 (bits .and .u8 ((A : Int) / 2 ^ M) 1) * 2 ^ k)) = ((c + A / 2 ^ M % 2 * 2 ^ k : Nat) : Int) := by
  have h2 : (A : Int) / 2 ^ M = ((A / 2 ^ M : Nat) : Int) := by simp
  rw [h2, and1_u8 _ (half_bit hA)]
  exact or_put c _ k hk hc
end Go.Proofs.Qxb6617294aMods
