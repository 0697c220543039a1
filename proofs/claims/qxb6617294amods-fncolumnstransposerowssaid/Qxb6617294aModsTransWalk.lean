/-
  'FnColumnsTransposeRows': the walk.
-/
import Derived.Test.Qxb6617294aModsCol
import Derived.Test.Qxb6617294aModsTrans
import Derived.Deep.QuietTactic
import Derived.BigQuiet
namespace Go.Proofs.Qxb6617294aMods
open Go.ChangeShapes Go.WideShapes Go.ChangeAt Go.RowKit

/-- The sixteen rows, laid so far. -/
def RowsAre (x : Nat → Nat) (n : Nat → Nat) (c : Array Value) : Prop := c.size = 16 ∧ ∀ r, r < 16 → c[r]? = some (.int .u16 (part x (n r) r))

theorem RowsAre.to {x n m c} (h : RowsAre x n c) (e : ∀ r, n r = m r) : RowsAre x m c := ⟨h.1, fun r hr => by rw [← e r]; exact h.2 r hr⟩

theorem rows_start (x : Nat → Nat) : RowsAre x (cnt 0 0 0) #[.int .u16 0, .int .u16 0, .int .u16 0, .int .u16 0, .int .u16 0, .int .u16 0, .int .u16 0, .int .u16 0, .int .u16 0, .int .u16 0, .int .u16 0, .int .u16 0, .int .u16 0, .int .u16 0, .int .u16 0, .int .u16 0] := by
  refine ⟨rfl, fun r hr => ?_⟩
  rw [cnt_00, part_zero]
  match r, hr with
  | 0, _ | 1, _ | 2, _ | 3, _ | 4, _ | 5, _ | 6, _ | 7, _ | 8, _ | 9, _ | 10, _ | 11, _ | 12, _ | 13, _ | 14, _ | 15, _ => rfl
  | n + 16, h => exact absurd h (by omega)

theorem rows_no {x t i j c} (hx : ∀ i, x i < 256) (hi : i < 16) (hj : j < 8) (h : RowsAre x (cnt t i j) c) (hb : col x t i / 2 ^ j % 2 = 0) : RowsAre x (cnt t i (j + 1)) c := by
  refine ⟨h.1, fun r hr => ?_⟩
  rw [h.2 r hr]
  by_cases e : r = t * 8 + j
  · subst e
    rw [cnt_here t i j hj, cnt_next t i j hj, part_no x hx t i j hi hj hb]
  · rw [cnt_other t i j r e]
theorem rows_yes {x t i j c} {v : Int} (hx : ∀ i, x i < 256) (hi : i < 16) (hj : j < 8) (h : RowsAre x (cnt t i j) c) (hb : col x t i / 2 ^ j % 2 = 1)
    (hv : v = bits .or .u16 (part x i (t * 8 + j) : Int) ((2 ^ i : Nat) : Int)) : RowsAre x (cnt t i (j + 1)) (c.setIfInBounds (t * 8 + j) (.int .u16 v)) := by
  refine ⟨by simp [h.1], fun r hr => ?_⟩
  by_cases e : r = t * 8 + j
  · subst e
    rw [cnt_next t i j hj, ← part_yes x hx t i j hi hj hb, ← hv]
    have hs : t * 8 + j < c.size := by rw [h.1]; exact hr
    exact Array.getElem?_setIfInBounds_self_of_lt hs
  · rw [cnt_other t i j r e, ← h.2 r hr]
    exact Array.getElem?_setIfInBounds_ne (Ne.symm e)

theorem wrap_bit {i : Nat} (h : i < 16) : IntKind.u16.wrap (2 ^ i) = ((2 ^ i : Nat) : Int) := by
  have h3 : 2 ^ i ≤ 2 ^ 15 := Nat.pow_le_pow_right (by omega) (by omega)
  have e : (2 : Int) ^ i = ((2 ^ i : Nat) : Int) := by simp
  rw [e, IntKind.wrap_u16]
  generalize 2 ^ i = m at h3
  omega

theorem below_draws {B : Nat} {a w : World} (h : Below B a w) (n : Nat) : Below B a (w.drewN n) := h.trans ⟨rfl, rfl, rfl, Nat.le_refl _, fun _ _ => rfl⟩

theorem grown_draws {a w : World} (h : Grown a w) (n : Nat) : Grown a (w.drewN n) := h

/-- Row r as the law's own text reckons it. -/
theorem want_eq (x : Nat → Nat) (hx : ∀ i, x i < 256) (r : Nat) :
    bits .or .u16 (IntKind.u16.wrap (x (2 * r) : Int)) (IntKind.u16.wrap (IntKind.u16.wrap (x (2 * r + 1) : Int) * 256)) = (full x r : Int) := by
  have h1 := hx (2 * r)
  have h2 := hx (2 * r + 1)
  unfold full
  generalize x (2 * r) = a at h1
  generalize x (2 * r + 1) = d at h2
  have e1 : IntKind.u16.wrap (a : Int) = (a : Int) := by rw [IntKind.wrap_u16]; omega
  have e2 : IntKind.u16.wrap (IntKind.u16.wrap (d : Int) * 256) = ((d * 2 ^ 8 : Nat) : Int) := by rw [IntKind.wrap_u16, IntKind.wrap_u16]; omega
  rw [e1, e2, u16_or_nat _ _ (by omega) (by omega), or_add 8 a d (by omega)]

set_option maxHeartbeats 1000000 in
theorem trans_walk (b off : Nat) (x : Nat → Nat) (hx : ∀ i, x i < 256) (w : World) (hb : b < w.heap.size) (hc : Holds w b off x) :
    Calls Trym.prog 3 #[.pointer (some ⟨b, off, none⟩)] w fun e w' => e = .returned (.bool true) ∧ Below w.heap.size w w' ∧ Grown w w' := by
  have HX : Hid (∀ i, x i < 256) := hx
  have HC : Hid (Holds w b off x) := hc
  have HA : ∀ c : Array Value, Hid (Holds (w.alloc (.cells c 24)) b off x) := fun c i hi => by
    rw [World.cell?_alloc_past _ _ _ hb]; exact hc i hi
  clear hx hc
  go_enter Trym.func3, Trym.ntmps3
  go_wp2
  go_loopw [4] (fun t wr => ∃ (k : Nat) (c : Array Value), k ≤ 2 ∧ t = .int .i64 k ∧ wr = w.alloc (.cells c 24) ∧ RowsAre x (cnt k 0 0) c) (fun t _ => 2 - (intOf t).toNat)
  case atStart => exact ⟨0, _, by omega, rfl, rfl, rows_start x⟩
  case round =>
    obtain ⟨t, c, ht, rfl, rfl, hR⟩ := hrel
    by_cases hlt : t < 2
    · have htd : decide ((t : Int) < 2) = true := by simp; omega
      go_wp2
      go_loopw [5] (fun i wr => ∃ (k : Nat) (c : Array Value), k ≤ 16 ∧ i = .int .i64 k ∧ wr = w.alloc (.cells c 24) ∧ RowsAre x (cnt t k 0) c) (fun i _ => 16 - (intOf i).toNat)
      case atStart => exact ⟨0, c, by omega, rfl, rfl, hR⟩
      case round =>
        clear hR c
        obtain ⟨i, c, hi, rfl, rfl, hR⟩ := hrel
        by_cases hli : i < 16
        · have hcl := col_lt x t i
          have hid : decide ((i : Int) < 16) = true := by simp; omega
          have hc0 : decide ((col x t i : Int) < 0) = false := by simp
          have hc1 : decide (255 < (col x t i : Int)) = false := by simp; omega
          go_wp2_with (go_at_call 6; refine (col_any b off x HX.out t i hlt hli _ (HA c).out).mono ?_; rintro e w' ⟨rfl, rfl⟩)
          go_loopw [7] (fun j wr => ∃ (k : Nat) (c : Array Value), k ≤ 8 ∧ j = .int .i64 k ∧ wr = w.alloc (.cells c 24) ∧ RowsAre x (cnt t i k) c) (fun j _ => 8 - (intOf j).toNat)
          case atStart => exact ⟨0, c, by omega, rfl, rfl, hR⟩
          case round =>
            clear hR c
            obtain ⟨j, c, hj, rfl, rfl, hR⟩ := hrel
            by_cases hlj : j < 8
            · have hjd : decide ((j : Int) < 8) = true := by simp; omega
              rcases Nat.mod_two_eq_zero_or_one (col x t i / 2 ^ j) with hbit | hbit
              · have HB : Hid (col x t i / 2 ^ j % 2 = 0) := hbit
                have htest : bits .and .i64 ((col x t i : Int) / 2 ^ j) 1 = 0 := by rw [bit_test _ _ hcl, hbit]; rfl
                clear hbit
                go_wp2
                go_roundw
                case rel => exact ⟨j + 1, c, by omega, by go_num, rfl, rows_no HX.out hli hlj hR HB.out⟩
                case measure => simp [intOf]; omega
              · have HB : Hid (col x t i / 2 ^ j % 2 = 1) := hbit
                have htest : bits .and .i64 ((col x t i : Int) / 2 ^ j) 1 = 1 := by rw [bit_test _ _ hcl, hbit]; rfl
                clear hbit
                have hcell := hR.2 (t * 8 + j) (by omega)
                rw [cnt_here t i j hlj] at hcell
                have hsz := hR.1
                go_wp2
                go_roundw
                case rel => exact ⟨j + 1, _, by omega, by go_num, rfl, rows_yes HX.out hli hlj hR HB.out (by rw [wrap_bit hli])⟩
                case measure => simp [intOf]; omega
            · obtain rfl : j = 8 := by omega
              go_wp2
              go_roundw
              case rel => exact ⟨i + 1, c, by omega, by go_num, rfl, hR.to (cnt_col t i)⟩
              case measure => simp [intOf]; omega
        · obtain rfl : i = 16 := by omega
          go_wp2
          go_roundw
          case rel => exact ⟨t + 1, c, by omega, by go_num, rfl, hR.to (cnt_tab t)⟩
          case measure => simp [intOf]; omega
    · obtain rfl : t = 2 := by omega
      clear HA
      have HF : Hid (∀ r, r < 16 → c[r]? = some (.int .u16 (full x r))) := fun r hr => by rw [hR.2 r hr, cnt_two r hr, part_all x HX.out r]
      clear hR
      go_wp2
      go_loopw [8] (fun r wr => ∃ (k n : Nat), k ≤ 16 ∧ r = .int .i64 k ∧ wr = (w.alloc (.cells c 24)).drewN n) (fun r _ => 16 - (intOf r).toNat)
      case atStart => exact ⟨0, 0, by omega, rfl, rfl⟩
      case round =>
        obtain ⟨r, n, hr, rfl, rfl⟩ := hrel
        by_cases hlr : r < 16
        · have g0 := HC.out (2 * r) (by omega)
          have g1 := HC.out (2 * r + 1) (by omega)
          have g2 := HF.out r hlr
          have b0 : (0 : Int) ≤ 2 * (r : Int) ∧ 2 * (r : Int) < 32 := by omega
          have b1 : (0 : Int) ≤ 2 * (r : Int) + 1 ∧ 2 * (r : Int) + 1 < 32 := by omega
          have hrd : decide ((r : Int) < 16) = true := by simp; omega
          have hwant := want_eq x HX.out r
          go_wp2
          go_quiet (fail)
          go_wp2
          go_roundw
          case rel => exact ⟨r + 1, n + nq, by omega, by go_num, by first | rfl | simp⟩
          case measure => simp [intOf]; omega
        · go_wp2
          go_ret
          exact ⟨rfl, below_draws ((Below.refl _ _).alloc (Nat.le_refl _) _) _, grown_draws ((Grown.refl _).alloc _ _) _⟩

theorem trans_nil (w : World) : Calls Trym.prog 3 #[.pointer none] w fun e w' => e = .returned (.bool true) ∧ w' = w := by
  go_enter Trym.func3, Trym.ntmps3
  go_wp2
  go_ret
  exact ⟨rfl, rfl⟩
end Go.Proofs.Qxb6617294aMods
