/-
  The columns read as a matrix are the transpose of the rows: the plain law.
-/
import Derived.Test.Qxb6617294aModsBits
namespace Go.Proofs.Qxb6617294aMods
open Go.RowKit

/-- Row r: the little-endian uint16. -/
def full (x : Nat → Nat) (r : Nat) : Nat := x (2 * r) + x (2 * r + 1) * 256
theorem full_lt (x : Nat → Nat) (hx : ∀ i, x i < 256) (r : Nat) : full x r < 65536 := by
  have h1 := hx (2 * r)
  have h2 := hx (2 * r + 1)
  unfold full
  omega

/-- Bit i of row r. -/
theorem bit_full (x : Nat → Nat) (hx : ∀ i, x i < 256) (r i : Nat) (hi : i < 16) : bitAt x (r * 16 + i) = full x r / 2 ^ i % 2 := by
  have h1 := hx (2 * r)
  have h2 := hx (2 * r + 1)
  unfold bitAt full
  by_cases h : i < 8
  · have e1 : (r * 16 + i) / 8 = 2 * r := by omega
    have e2 : (r * 16 + i) % 8 = i := by omega
    rw [e1, e2]
    match i, h with
    | 0, _ | 1, _ | 2, _ | 3, _ | 4, _ | 5, _ | 6, _ | 7, _ => simp only [Nat.reducePow]; omega
  · have e1 : (r * 16 + i) / 8 = 2 * r + 1 := by omega
    have e2 : (r * 16 + i) % 8 = i - 8 := by omega
    rw [e1, e2]
    obtain ⟨k, rfl⟩ : ∃ k, i = k + 8 := ⟨i - 8, by omega⟩
    have hk : k < 8 := by omega
    match k, hk with
    | 0, _ | 1, _ | 2, _ | 3, _ | 4, _ | 5, _ | 6, _ | 7, _ => simp only [Nat.reducePow, Nat.reduceAdd, Nat.reduceSub]; omega

/-- Bit j of column (t, i). -/
theorem col_bit (x : Nat → Nat) (t i j : Nat) (hj : j < 8) : col x t i / 2 ^ j % 2 = bitAt x ((t * 8 + j) * 16 + i) := by
  have hb := fun j => bitAt_le x ((t * 8 + j) * 16 + i)
  have h0 := hb 0
  have h1 := hb 1
  have h2 := hb 2
  have h3 := hb 3
  have h4 := hb 4
  have h5 := hb 5
  have h6 := hb 6
  have h7 := hb 7
  clear hb
  unfold col
  simp only [colUp, Nat.reducePow]
  match j, hj with
  | 0, _ | 1, _ | 2, _ | 3, _ | 4, _ | 5, _ | 6, _ | 7, _ => simp only [Nat.reducePow]; omega

/-- How many bits of row r have been laid when column (t, i) has been read as far as bit j. -/
def cnt (t i j r : Nat) : Nat := if r < t * 8 then 16 else if r < t * 8 + 8 then (if r < t * 8 + j then i + 1 else i) else 0
theorem cnt_00 (r : Nat) : cnt 0 0 0 r = 0 := by unfold cnt; split <;> (try split) <;> (try split) <;> omega
theorem cnt_col (t i r : Nat) : cnt t i 8 r = cnt t (i + 1) 0 r := by unfold cnt; split <;> (try split) <;> (try split) <;> (try split) <;> omega
theorem cnt_tab (t r : Nat) : cnt t 16 0 r = cnt (t + 1) 0 0 r := by unfold cnt; split <;> (try split) <;> (try split) <;> (try split) <;> (try split) <;> omega
theorem cnt_two (r : Nat) (h : r < 16) : cnt 2 0 0 r = 16 := by unfold cnt; split <;> omega
theorem cnt_other (t i j r : Nat) (h : r ≠ t * 8 + j) : cnt t i (j + 1) r = cnt t i j r := by unfold cnt; split <;> (try split) <;> (try split) <;> (try split) <;> omega
theorem cnt_here (t i j : Nat) (h : j < 8) : cnt t i j (t * 8 + j) = i := by unfold cnt; split <;> (try split) <;> (try split) <;> omega
theorem cnt_next (t i j : Nat) (h : j < 8) : cnt t i (j + 1) (t * 8 + j) = i + 1 := by unfold cnt; split <;> (try split) <;> (try split) <;> omega

/-- The laid part of row r. -/
def part (x : Nat → Nat) (n r : Nat) : Nat := full x r % 2 ^ n
theorem part_zero (x : Nat → Nat) (r : Nat) : part x 0 r = 0 := by simp [part, Nat.mod_one]
theorem part_all (x : Nat → Nat) (hx : ∀ i, x i < 256) (r : Nat) : part x 16 r = full x r := Nat.mod_eq_of_lt (full_lt x hx r)
theorem part_succ (x : Nat → Nat) (n r : Nat) : part x (n + 1) r = part x n r + full x r / 2 ^ n % 2 * 2 ^ n := by
  unfold part
  rw [Nat.mod_pow_succ, Nat.mul_comm]
theorem part_lt (x : Nat → Nat) (n r : Nat) : part x n r < 2 ^ n := Nat.mod_lt _ (Nat.two_pow_pos n)

/-- The bit is 0: nothing is laid. -/
theorem part_no (x : Nat → Nat) (hx : ∀ i, x i < 256) (t i j : Nat) (hi : i < 16) (hj : j < 8) (h : col x t i / 2 ^ j % 2 = 0) : part x (i + 1) (t * 8 + j) = part x i (t * 8 + j) := by
  rw [col_bit x t i j hj, bit_full x hx _ i hi] at h
  rw [part_succ, h]; simp
/-- The bit is 1: '|' lays it. -/
theorem part_yes (x : Nat → Nat) (hx : ∀ i, x i < 256) (t i j : Nat) (hi : i < 16) (hj : j < 8) (h : col x t i / 2 ^ j % 2 = 1) :
    bits .or .u16 (part x i (t * 8 + j) : Int) ((2 ^ i : Nat) : Int) = (part x (i + 1) (t * 8 + j) : Int) := by
  rw [col_bit x t i j hj, bit_full x hx _ i hi] at h
  have h1 := part_lt x i (t * 8 + j)
  have h3 : 2 ^ i ≤ 2 ^ 15 := Nat.pow_le_pow_right (by omega) (by omega)
  rw [part_succ, h, u16_or_nat _ _ (by omega) (by omega)]
  have := or_add i (part x i (t * 8 + j)) 1 h1
  rw [Nat.one_mul] at this
  rw [this, Nat.one_mul]

/-- The test on a column's bit, as the walk has it. -/
theorem bit_test (c j : Nat) (hc : c < 256) : bits .and .i64 ((c : Int) / 2 ^ j) 1 = ((c / 2 ^ j % 2 : Nat) : Int) := by
  have h2 : (c : Int) / 2 ^ j = ((c / 2 ^ j : Nat) : Int) := by simp
  rw [h2, and1_i64 _ (half_bit hc)]
end Go.Proofs.Qxb6617294aMods
