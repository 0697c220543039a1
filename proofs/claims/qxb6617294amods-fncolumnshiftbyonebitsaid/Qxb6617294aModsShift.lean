/-
  A scalar times two, its columns, and how many bits are set: the plain law.
-/
import Derived.Test.Qxb6617294aModsTrans
namespace Go.Proofs.Qxb6617294aMods
open Go.RowKit

/-! ### Sums -/
def sumTo (f : Nat → Nat) : Nat → Nat
  | 0 => 0
  | n + 1 => sumTo f n + f n
theorem sum_congr {f g : Nat → Nat} (n : Nat) (h : ∀ i, i < n → f i = g i) : sumTo f n = sumTo g n := by
  induction n with
  | zero => rfl
  | succ n ih => simp only [sumTo]; rw [ih (fun i hi => h i (by omega)), h n (by omega)]
theorem sum_add (f g : Nat → Nat) (n : Nat) : sumTo (fun i => f i + g i) n = sumTo f n + sumTo g n := by
  induction n with
  | zero => rfl
  | succ n ih => simp only [sumTo]; omega
theorem sum_zero (n : Nat) : sumTo (fun _ => 0) n = 0 := by
  induction n with
  | zero => rfl
  | succ n ih => simp only [sumTo]; omega
theorem sum_swap (f : Nat → Nat → Nat) (m n : Nat) : sumTo (fun i => sumTo (fun j => f i j) n) m = sumTo (fun j => sumTo (fun i => f i j) m) n := by
  induction m with
  | zero => simp only [sumTo]; exact (sum_zero n).symm
  | succ m ih => simp only [sumTo]; rw [ih, ← sum_add]
theorem sum_split (f : Nat → Nat) (m n : Nat) : sumTo f (m + n) = sumTo f m + sumTo (fun j => f (m + j)) n := by
  induction n with
  | zero => rfl
  | succ n ih => show sumTo f (m + n) + f (m + n) = _; simp only [sumTo]; omega
theorem sum_flat (f : Nat → Nat) (m n : Nat) : sumTo (fun i => sumTo (fun j => f (i * n + j)) n) m = sumTo f (m * n) := by
  induction m with
  | zero => simp [sumTo]
  | succ m ih => simp only [sumTo]; rw [ih, Nat.succ_mul, sum_split]
theorem sum_le (f : Nat → Nat) (b n : Nat) (h : ∀ i, f i ≤ b) : sumTo f n ≤ n * b := by
  induction n with
  | zero => simp [sumTo]
  | succ n ih => have := h n; simp only [sumTo, Nat.succ_mul]; omega

/-! ### How many bits are set -/
def popUp (c j : Nat) : Nat := sumTo (fun j => c / 2 ^ j % 2) j
def pop (c : Nat) : Nat := popUp c 8
theorem popUp_le (c j : Nat) : popUp c j ≤ j := by
  have := sum_le (fun j => c / 2 ^ j % 2) 1 j (fun i => by omega)
  unfold popUp; omega
theorem pop_le (c : Nat) : pop c ≤ 8 := popUp_le c 8

/-- The sum over the columns ahead of (t, i). -/
def tot (x : Nat → Nat) (t i : Nat) : Nat := sumTo (fun t => sumTo (fun i => pop (col x t i)) 16) t + sumTo (fun i => pop (col x t i)) i
theorem tot_le (x : Nat → Nat) (t i : Nat) : tot x t i ≤ t * 128 + i * 8 := by
  have h1 := sum_le (fun t => sumTo (fun i => pop (col x t i)) 16) 128 t (fun t => sum_le _ 8 16 fun _ => pop_le _)
  have h2 := sum_le (fun i => pop (col x t i)) 8 i (fun _ => pop_le _)
  unfold tot; omega
theorem tot_succ (x : Nat → Nat) (t i : Nat) : tot x t (i + 1) = tot x t i + pop (col x t i) := by
  simp only [tot, sumTo]; omega
theorem tot_next (x : Nat → Nat) (t : Nat) : tot x t 16 = tot x (t + 1) 0 := by
  simp only [tot, sumTo]; omega
/-- The sum over the bytes ahead of k. -/
def ones (x : Nat → Nat) (k : Nat) : Nat := sumTo (fun k => pop (x k)) k
theorem ones_le (x : Nat → Nat) (k : Nat) : ones x k ≤ k * 8 := sum_le _ 8 k fun _ => pop_le _
theorem ones_succ (x : Nat → Nat) (k : Nat) : ones x (k + 1) = ones x k + pop (x k) := rfl

theorem pop_col (x : Nat → Nat) (t i : Nat) : pop (col x t i) = sumTo (fun j => bitAt x ((t * 8 + j) * 16 + i)) 8 :=
  sum_congr 8 fun j hj => col_bit x t i j hj
theorem pop_byte (x : Nat → Nat) (k : Nat) : pop (x k) = sumTo (fun j => bitAt x (k * 8 + j)) 8 :=
  sum_congr 8 fun j hj => by
    have e1 : (k * 8 + j) / 8 = k := by omega
    have e2 : (k * 8 + j) % 8 = j := by omega
    unfold bitAt; rw [e1, e2]

/-- The columns bear as many set bits as the bytes. -/
theorem tot_ones (x : Nat → Nat) : tot x 2 0 = ones x 32 := by
  have h1 : tot x 2 0 = sumTo (fun t => sumTo (fun i => sumTo (fun j => bitAt x ((t * 8 + j) * 16 + i)) 8) 16) 2 := by
    show sumTo (fun t => sumTo (fun i => pop (col x t i)) 16) 2 + 0 = _
    rw [Nat.add_zero]
    exact sum_congr 2 fun t _ => sum_congr 16 fun i _ => pop_col x t i
  have h2 : ones x 32 = sumTo (fun k => sumTo (fun j => bitAt x (k * 8 + j)) 8) 32 := sum_congr 32 fun k _ => pop_byte x k
  rw [h1, h2, sum_flat (bitAt x) 32 8]
  have h3 : ∀ t, sumTo (fun i => sumTo (fun j => bitAt x ((t * 8 + j) * 16 + i)) 8) 16 = sumTo (fun j => sumTo (fun i => bitAt x ((t * 8 + j) * 16 + i)) 16) 8 :=
    fun t => sum_swap (fun i j => bitAt x ((t * 8 + j) * 16 + i)) 16 8
  simp only [h3]
  rw [sum_flat (fun r => sumTo (fun i => bitAt x (r * 16 + i)) 16) 2 8, sum_flat (bitAt x) 16 16]

/-! ### Times two -/
/-- What is carried into byte k. -/
def carryAt (x : Nat → Nat) : Nat → Nat
  | 0 => 0
  | k + 1 => x k / 128
/-- The scalar times two, modulo 2^256. -/
def twice (x : Nat → Nat) (k : Nat) : Nat := x k * 2 % 256 + carryAt x k
theorem carry_le (x : Nat → Nat) (hx : ∀ i, x i < 256) (k : Nat) : carryAt x k ≤ 1 := by
  cases k with
  | zero => simp [carryAt]
  | succ k => have := hx k; simp only [carryAt]; omega
theorem twice_lt (x : Nat → Nat) (hx : ∀ i, x i < 256) (k : Nat) : twice x k < 256 := by
  have := carry_le x hx k
  unfold twice; omega

theorem bit_twice (x : Nat → Nat) (hx : ∀ i, x i < 256) (n : Nat) : bitAt (twice x) (n + 1) = bitAt x n := by
  have hc := carry_le x hx
  by_cases h : n % 8 = 7
  · obtain ⟨q, rfl⟩ : ∃ q, n = q * 8 + 7 := ⟨n / 8, by omega⟩
    have e1 : (q * 8 + 7 + 1) / 8 = q + 1 := by omega
    have e2 : (q * 8 + 7 + 1) % 8 = 0 := by omega
    have e3 : (q * 8 + 7) / 8 = q := by omega
    have e4 : (q * 8 + 7) % 8 = 7 := by omega
    have h1 := hx q
    unfold bitAt
    rw [e1, e2, e3, e4]
    simp only [twice, carryAt, Nat.reducePow]
    omega
  · obtain ⟨q, m, hm, rfl⟩ : ∃ q m, m < 7 ∧ n = q * 8 + m := ⟨n / 8, n % 8, by omega, by omega⟩
    have e1 : (q * 8 + m + 1) / 8 = q := by omega
    have e2 : (q * 8 + m + 1) % 8 = m + 1 := by omega
    have e3 : (q * 8 + m) / 8 = q := by omega
    have e4 : (q * 8 + m) % 8 = m := by omega
    have h1 := hx q
    have h2 := hc q
    unfold bitAt
    rw [e1, e2, e3, e4]
    unfold twice
    generalize carryAt x q = a at h2
    match m, hm with
    | 0, _ | 1, _ | 2, _ | 3, _ | 4, _ | 5, _ | 6, _ => simp only [Nat.reducePow, Nat.reduceAdd]; omega
theorem bit_twice0 (x : Nat → Nat) : bitAt (twice x) 0 = 0 := by
  simp only [bitAt, twice, carryAt, Nat.reducePow, Nat.zero_div, Nat.zero_mod]; omega

theorem colUp_congr {x y : Nat → Nat} {t i s k : Nat} (n : Nat) (h : ∀ j, j < n → bitAt y ((t * 8 + j) * 16 + i) = bitAt x ((s * 8 + j) * 16 + k)) : colUp y t i n = colUp x s k n := by
  induction n with
  | zero => rfl
  | succ n ih => simp only [colUp]; rw [ih (fun j hj => h j (by omega)), h n (by omega)]

/-- Column i of the double is column i-1. -/
theorem col_pos (x : Nat → Nat) (hx : ∀ i, x i < 256) (t i : Nat) (hi : 0 < i) : col (twice x) t i = col x t (i - 1) :=
  colUp_congr 8 fun j _ => by
    have e : (t * 8 + j) * 16 + i = ((t * 8 + j) * 16 + (i - 1)) + 1 := by omega
    rw [e, bit_twice x hx]
/-- Column 0 of the double: column 15 moved one row on. -/
theorem col_zero (x : Nat → Nat) (hx : ∀ i, x i < 256) : col (twice x) 0 0 = col x 0 15 * 2 % 256 := by
  have h0 := bit_twice0 x
  have e := fun n => bit_twice x hx n
  have hb := fun j => bitAt_le x ((0 * 8 + j) * 16 + 15)
  have b0 := hb 0
  have b1 := hb 1
  have b2 := hb 2
  have b3 := hb 3
  have b4 := hb 4
  have b5 := hb 5
  have b6 := hb 6
  have b7 := hb 7
  have c1 := e 15
  have c2 := e 31
  have c3 := e 47
  have c4 := e 63
  have c5 := e 79
  have c6 := e 95
  have c7 := e 111
  clear e hb
  unfold col
  simp only [colUp, Nat.reducePow, Nat.reduceMul, Nat.reduceAdd] at *
  omega
theorem col_one (x : Nat → Nat) (hx : ∀ i, x i < 256) : col (twice x) 1 0 = col x 1 15 * 2 % 256 + col x 0 15 / 128 := by
  have e := fun n => bit_twice x hx n
  have hb := fun j => bitAt_le x ((1 * 8 + j) * 16 + 15)
  have hd := fun j => bitAt_le x ((0 * 8 + j) * 16 + 15)
  have b0 := hb 0
  have b1 := hb 1
  have b2 := hb 2
  have b3 := hb 3
  have b4 := hb 4
  have b5 := hb 5
  have b6 := hb 6
  have b7 := hb 7
  have d0 := hd 0
  have d1 := hd 1
  have d2 := hd 2
  have d3 := hd 3
  have d4 := hd 4
  have d5 := hd 5
  have d6 := hd 6
  have d7 := hd 7
  have c0 := e 127
  have c1 := e 143
  have c2 := e 159
  have c3 := e 175
  have c4 := e 191
  have c5 := e 207
  have c6 := e 223
  have c7 := e 239
  clear e hb hd
  unfold col
  simp only [colUp, Nat.reducePow, Nat.reduceMul, Nat.reduceAdd] at *
  omega
end Go.Proofs.Qxb6617294aMods
