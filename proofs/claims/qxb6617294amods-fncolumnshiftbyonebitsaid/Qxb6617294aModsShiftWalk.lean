/-
  'zzPop8' and 'FnColumnShiftByOneBit': the walks.
-/
import Derived.Test.Qxb6617294aModsCol
import Derived.Test.Qxb6617294aModsShift
import Derived.Deep.RegionWith
namespace Go.Proofs.Qxb6617294aMods
open Go.ChangeShapes Go.WideShapes Go.ChangeAt Go.RowKit

theorem popUp_succ (c j : Nat) : popUp c (j + 1) = popUp c j + c / 2 ^ j % 2 := rfl

set_option maxHeartbeats 400000 in
/-- zzPop8(c). -/
theorem pop_any (c : Nat) (hc : c < 256) (w : World) :
    Calls Trym.prog 7 #[.int .i64 c] w fun e w' => e = .returned (.int .i64 (pop c)) ∧ w' = w := by
  go_enter Trym.func7, Trym.ntmps7
  go_wp2
  go_loop [3, 4] (fun n j => ∃ k : Nat, k ≤ 8 ∧ j = .int .i64 k ∧ n = .int .i64 (popUp c k)) (fun _ j => 8 - (intOf j).toNat)
  case atStart => exact ⟨0, by omega, rfl, rfl⟩
  case round =>
    obtain ⟨j, hj, rfl, rfl⟩ := hrel
    by_cases hlj : j < 8
    · have hp := popUp_le c j
      rcases Nat.mod_two_eq_zero_or_one (c / 2 ^ j) with hbit | hbit
      · have HB : Hid (c / 2 ^ j % 2 = 0) := hbit
        have htest : bits .and .i64 ((c : Int) / 2 ^ j) 1 = 0 := by rw [bit_test _ _ hc, hbit]; rfl
        clear hbit
        go_wp2
        go_round
        case rel => exact ⟨j + 1, by omega, by go_num, val_int (by rw [popUp_succ, HB.out]; rfl)⟩
        case measure => simp [intOf]; omega
      · have HB : Hid (c / 2 ^ j % 2 = 1) := hbit
        have htest : bits .and .i64 ((c : Int) / 2 ^ j) 1 = 1 := by rw [bit_test _ _ hc, hbit]; rfl
        clear hbit
        go_wp2
        go_round
        case rel => exact ⟨j + 1, by omega, by go_num, val_int (by rw [popUp_succ, HB.out]; rfl)⟩
        case measure => simp [intOf]; omega
    · obtain rfl : j = 8 := by omega
      go_wp2
      go_ret
      exact ⟨rfl, rfl⟩

/-- ZZColumn, its numbers spelt as the walk has them. -/
theorem col_z (b off : Nat) (x : Nat → Nat) (hx : ∀ i, x i < 256) (t i : Nat) (ht : t < 2) (hi : i < 16) (T I : Int) (hT : T = t) (hI : I = i) (w : World) (hc : Holds w b off x) :
    Calls Trym.prog 6 #[.pointer (some ⟨b, off, none⟩), .int .i64 T, .int .i64 I] w fun e w' => e = .returned (.int .i64 (col x t i)) ∧ w' = w := by
  subst hT hI
  exact col_any b off x hx t i ht hi w hc

/-- One byte of the double, as the law's own text reckons it. -/
theorem twice_step (x : Nat → Nat) (hx : ∀ i, x i < 256) (k : Nat) : bits .or .u8 ((x k : Int) * 2 % 256) (carryAt x k : Int) = (twice x k : Int) := by
  have h1 := hx k
  have h2 := carry_le x hx k
  have e : (x k : Int) * 2 % 256 = ((x k * 2 % 256 : Nat) : Int) := by omega
  rw [e, u8_or_nat _ _ (by omega) (by omega)]
  have h3 : x k * 2 % 256 = x k % 128 * 2 ^ 1 := by omega
  unfold twice
  rw [h3, Nat.or_comm, or_add 1 _ _ (by omega), Nat.add_comm]

/-- 'c << 1 & 255' of a column. -/
theorem shl_and (c : Nat) (hc : c < 256) : bits .and .i64 (wrap64 ((c : Int) * 2)) 255 = ((c * 2 % 256 : Nat) : Int) := by
  have e : wrap64 ((c : Int) * 2) = ((c * 2 : Nat) : Int) := by rw [wrap64_small (by omega) (by omega)]; omega
  have h := and_i64 (c * 2) 255 (by omega) (by omega)
  rw [show (255 : Nat) = 2 ^ 8 - 1 by decide, Nat.and_two_pow_sub_one_eq_mod] at h
  rw [e]; exact h
theorem want_zero (x : Nat → Nat) (hx : ∀ i, x i < 256) : (col (twice x) 0 0 : Int) = bits .and .i64 (wrap64 ((col x 0 15 : Int) * 2)) 255 := by
  rw [shl_and _ (col_lt x 0 15), col_zero x hx]
theorem want_one (x : Nat → Nat) (hx : ∀ i, x i < 256) :
    (col (twice x) 1 0 : Int) = bits .or .i64 (bits .and .i64 (wrap64 ((col x 1 15 : Int) * 2)) 255) ((col x 0 15 : Int) / 128) := by
  have h0 := col_lt x 0 15
  rw [shl_and _ (col_lt x 1 15), col_one x hx]
  generalize col x 1 15 = c
  generalize col x 0 15 = d at h0
  have e : (d : Int) / 128 = ((d / 128 : Nat) : Int) := by omega
  have h3 : c * 2 % 256 = c % 128 * 2 ^ 1 := by omega
  rw [e, or_i64 _ _ (by omega) (by omega), h3, Nat.or_comm, or_add 1 _ _ (by omega), Nat.add_comm]

set_option maxHeartbeats 2000000 in
theorem shift_walk (b off : Nat) (x : Nat → Nat) (hx : ∀ i, x i < 256) (w : World) (hb : b < w.heap.size) (hc : Holds w b off x) :
    Calls Trym.prog 4 #[.pointer (some ⟨b, off, none⟩)] w fun e w' => e = .returned (.bool true) ∧ Below w.heap.size w w' ∧ Grown w w' := by
  have HX : Hid (∀ i, x i < 256) := hx
  have HY : Hid (∀ i, twice x i < 256) := twice_lt x hx
  have HC : Hid (Holds w b off x) := hc
  have HA : ∀ c : Array Value, Hid (Holds (w.alloc (.cells c 28)) b off x) := fun c i hi => by
    rw [World.cell?_alloc_past _ _ _ hb]; exact hc i hi
  clear hx hc
  go_enter Trym.func4, Trym.ntmps4
  go_wp2
  go_loopw [4, 5] (fun y i wr => ∃ (k : Nat) (c : Array Value), k ≤ 32 ∧ i = .int .i64 k ∧ y = .int .u8 (carryAt x k) ∧ wr = w.alloc (.cells c 28) ∧ c.size = 32 ∧ ∀ i, i < k → c[i]? = some (.int .u8 (twice x i))) (fun _ i _ => 32 - (intOf i).toNat)
  case atStart => exact ⟨0, _, by omega, rfl, rfl, rfl, rfl, fun i hi => absurd hi (by omega)⟩
  case round =>
    obtain ⟨k, c, hk, rfl, rfl, rfl, hsz, hdone⟩ := hrel
    by_cases hlk : k < 32
    · have g0 := HC.out k hlk
      have HD : Hid (∀ i, i < k → c[i]? = some (.int .u8 (twice x i))) := hdone
      clear hdone
      have hstep := twice_step x HX.out k
      have hkc := HX.out k
      have hkd : decide ((k : Int) < 32) = true := by simp; omega
      go_wp2
      go_roundw
      case rel =>
        refine ⟨k + 1, _, by omega, by go_num, val_int (by simp [carryAt]), rfl, by simp [hsz], fun i hi => ?_⟩
        by_cases e : i = k
        · subst e
          exact Array.getElem?_setIfInBounds_self_of_lt (by omega)
        · rw [Array.getElem?_setIfInBounds_ne (Ne.symm e)]
          exact HD.out i (by omega)
      case measure => simp [intOf]; omega
    · have HD : Hid (∀ i, i < 32 → c[i]? = some (.int .u8 (twice x i))) := fun i hi => hdone i (by omega)
      clear hdone hsz
      have HO : Hid (Holds (w.alloc (.cells c 28)) w.heap.size 0 (twice x)) := fun i hi => by
        rw [Nat.zero_add, World.cell?_alloc_at _ _ _ _ rfl]; exact HD.out i hi
      go_wp2
      go_loop [6, 7] (fun n t => ∃ k : Nat, k ≤ 2 ∧ t = .int .i64 k ∧ n = .int .i64 (tot x k 0)) (fun _ t => 2 - (intOf t).toNat)
      case atStart => exact ⟨0, by omega, rfl, rfl⟩
      case round =>
        obtain ⟨t, ht, rfl, rfl⟩ := hrel
        by_cases hlt : t < 2
        · have htd : decide ((t : Int) < 2) = true := by simp; omega
          go_wp2
          go_loop [6, 8] (fun n i => ∃ k : Nat, k ≤ 16 ∧ i = .int .i64 k ∧ n = .int .i64 (tot x t k)) (fun _ i => 16 - (intOf i).toNat)
          case atStart => exact ⟨0, by omega, rfl, rfl⟩
          case round =>
            obtain ⟨i, hi, rfl, rfl⟩ := hrel
            by_cases hli : i < 16
            · have hcl := col_lt x t i
              have htl := tot_le x t i
              have hpl := pop_le (col x t i)
              have hid : decide ((i : Int) < 16) = true := by simp; omega
              have hc0 : decide ((col x t i : Int) < 0) = false := by simp
              have hc1 : decide (255 < (col x t i : Int)) = false := by simp; omega
              by_cases hi0 : 0 < i
              · have hi0d : decide ((0 : Int) < (i : Int)) = true := by simp; omega
                have hne : ((col (twice x) t i : Int) != (col x t (i - 1) : Int)) = false := by rw [col_pos x HX.out t i hi0]; simp
                go_wp2_with (first
                  | (go_at_call 7; refine (pop_any _ hcl _).mono ?_; rintro e w' ⟨rfl, rfl⟩)
                  | (go_at_call_of 6 (Value.pointer (some ⟨w.heap.size, 0, none⟩)); refine (col_any w.heap.size 0 (twice x) HY.out t i hlt hli _ HO.out).mono ?_; rintro e w' ⟨rfl, rfl⟩)
                  | (go_at_call_of 6 (Value.int IntKind.i64 (i : Int)); refine (col_any b off x HX.out t i hlt hli _ (HA c).out).mono ?_; rintro e w' ⟨rfl, rfl⟩)
                  | (go_at_call 6; refine (col_z b off x HX.out t (i - 1) hlt (by omega) (t : Int) ((i : Int) - 1) rfl (by omega) _ (HA c).out).mono ?_; rintro e w' ⟨rfl, rfl⟩))
                go_round
                case rel => exact ⟨i + 1, by omega, by go_num, val_int (by rw [tot_succ]; simp)⟩
                case measure => simp [intOf]; omega
              · have HI : Hid (i = 0) := by show i = 0; omega
                have hi0d : decide ((0 : Int) < (i : Int)) = false := by simp; omega
                by_cases ht0 : t = 0
                · have HT : Hid (t = 0) := ht0
                  have ht0d : ((t : Int) == 0) = true := by simp; omega
                  have hne : ((col (twice x) t i : Int) != bits .and .i64 (wrap64 ((col x 0 15 : Int) * 2)) 255) = false := by rw [HT.out, HI.out, want_zero x HX.out]; simp
                  clear ht0
                  go_wp2_with (first
                    | (go_at_call 7; refine (pop_any _ hcl _).mono ?_; rintro e w' ⟨rfl, rfl⟩)
                    | (go_at_call_of 6 (Value.pointer (some ⟨w.heap.size, 0, none⟩)); refine (col_any w.heap.size 0 (twice x) HY.out t i hlt hli _ HO.out).mono ?_; rintro e w' ⟨rfl, rfl⟩)
                    | (go_at_call_of 6 (Value.int IntKind.i64 (i : Int)); refine (col_any b off x HX.out t i hlt hli _ (HA c).out).mono ?_; rintro e w' ⟨rfl, rfl⟩)
                    | (go_at_call_of 6 (Value.int IntKind.i64 15); refine (col_z b off x HX.out 0 15 (by omega) (by omega) 0 15 rfl rfl _ (HA c).out).mono ?_; rintro e w' ⟨rfl, rfl⟩))
                  go_round
                  case rel => exact ⟨i + 1, by omega, by go_num, val_int (by rw [tot_succ]; simp)⟩
                  case measure => simp [intOf]; omega
                · have HT : Hid (t = 1) := by show t = 1; omega
                  have ht0d : ((t : Int) == 0) = false := by simp; omega
                  have hne : ((col (twice x) t i : Int) != bits .or .i64 (bits .and .i64 (wrap64 ((col x 1 15 : Int) * 2)) 255) ((col x 0 15 : Int) / 128)) = false := by rw [HT.out, HI.out, want_one x HX.out]; simp
                  clear ht0
                  go_wp2_with (first
                    | (go_at_call 7; refine (pop_any _ hcl _).mono ?_; rintro e w' ⟨rfl, rfl⟩)
                    | (go_at_call_of 6 (Value.pointer (some ⟨w.heap.size, 0, none⟩)); refine (col_any w.heap.size 0 (twice x) HY.out t i hlt hli _ HO.out).mono ?_; rintro e w' ⟨rfl, rfl⟩)
                    | (go_at_call_of 6 (Value.int IntKind.i64 (i : Int)); refine (col_any b off x HX.out t i hlt hli _ (HA c).out).mono ?_; rintro e w' ⟨rfl, rfl⟩)
                    | (go_at_call_of 6 (Value.int IntKind.i64 1); refine (col_z b off x HX.out 1 15 (by omega) (by omega) 1 15 rfl rfl _ (HA c).out).mono ?_; rintro e w' ⟨rfl, rfl⟩)
                    | (go_at_call_of 6 (Value.int IntKind.i64 15); refine (col_z b off x HX.out 0 15 (by omega) (by omega) 0 15 rfl rfl _ (HA c).out).mono ?_; rintro e w' ⟨rfl, rfl⟩))
                  go_round
                  case rel => exact ⟨i + 1, by omega, by go_num, val_int (by rw [tot_succ]; simp)⟩
                  case measure => simp [intOf]; omega
            · have HI : Hid (i = 16) := by show i = 16; omega
              go_wp2
              go_round
              case rel => exact ⟨t + 1, by omega, by go_num, val_int (by rw [HI.out, tot_next])⟩
              case measure => simp [intOf]; omega
        · have HT : Hid (t = 2) := by show t = 2; omega
          go_wp2
          go_loop [12, 13] (fun n i => ∃ k : Nat, k ≤ 32 ∧ i = .int .i64 k ∧ n = .int .i64 (ones x k)) (fun _ i => 32 - (intOf i).toNat)
          case atStart => exact ⟨0, by omega, rfl, rfl⟩
          case round =>
            obtain ⟨j, hj, rfl, rfl⟩ := hrel
            by_cases hlj : j < 32
            · have g0 := HC.out j hlj
              have hjc := HX.out j
              have hol := ones_le x j
              have hpl := pop_le (x j)
              have hjd : decide ((j : Int) < 32) = true := by simp; omega
              go_wp2_with (go_at_call 7; refine (pop_any _ hjc _).mono ?_; rintro e w' ⟨rfl, rfl⟩)
              go_round
              case rel => exact ⟨j + 1, by omega, by go_num, val_int (by rw [ones_succ]; simp)⟩
              case measure => simp [intOf]; omega
            · have HJ : Hid (j = 32) := by show j = 32; omega
              have heq : ((tot x t 0 : Int) == (ones x j : Int)) = true := by rw [HT.out, HJ.out, tot_ones]; simp
              go_wp2
              go_ret
              exact ⟨rfl, (Below.refl _ _).alloc (Nat.le_refl _) _, (Grown.refl _).alloc _ _⟩

theorem shift_nil (w : World) : Calls Trym.prog 4 #[.pointer none] w fun e w' => e = .returned (.bool true) ∧ w' = w := by
  go_enter Trym.func4, Trym.ntmps4
  go_wp2
  go_ret
  exact ⟨rfl, rfl⟩
end Go.Proofs.Qxb6617294aMods
