/-
  'countersign.column' and its shim: their contracts.
-/
import Derived.Test.Qxb6617294aModsRows
import Derived.Test.Qxb6617294aModsBits
import Derived.WalkKit
import Derived.ProofKit
namespace Go.Proofs.Qxb6617294aMods
open Go.ChangeShapes Go.WideShapes Go.ChangeAt Go.RowKit

theorem val_int {k : IntKind} {a b : Int} (h : a = b) : Value.int k a = .int k b := by rw [h]

/-- The 32 bytes at an address. -/
def Holds (w : World) (b off : Nat) (x : Nat → Nat) : Prop := ∀ i, i < 32 → w.cell? ⟨b, off + i, none⟩ = some (.int .u8 (x i))

set_option maxHeartbeats 400000 in
theorem col11 (b off : Nat) (x : Nat → Nat) (hx : ∀ i, x i < 256) (t i : Nat) (ht : t < 2) (hi : i < 16) (w : World) (hc : Holds w b off x) :
    Calls Trym.prog 11 #[.pointer (some ⟨b, off, none⟩), .int .i64 t, .int .i64 i] w fun e w' => e = .returned (.int .i64 (col x t i)) ∧ w' = w := by
  have HX : Hid (∀ i, x i < 256) := hx
  have HC : Hid (Holds w b off x) := hc
  clear hx hc
  go_enter Trym.func11, Trym.ntmps11
  go_wp2
  go_loop [7, 10] (fun e j => ∃ k : Nat, k ≤ 8 ∧ j = .int .i64 k ∧ e = .int .i64 (colUp x t i k)) (fun _ j => 8 - (intOf j).toNat)
  case atStart => exact ⟨0, by omega, rfl, rfl⟩
  case round =>
    obtain ⟨k, hk, rfl, rfl⟩ := hrel
    by_cases hlt : k < 8
    · have hcell := HC.out (((t * 8 + k) * 16 + i) / 8) (by omega)
      go_wp2
      go_round
      case rel =>
        refine ⟨k + 1, by omega, by go_num, val_int ?_⟩
        rw [col_step _ _ _ k (HX.out _) hlt (colUp_lt x t i k)]
        rfl
      case measure => simp [intOf]; omega
    · obtain rfl : k = 8 := by omega
      go_wp2
      go_ret
      exact ⟨rfl, rfl⟩

set_option maxHeartbeats 400000 in
/-- ZZColumn(s, t, i). -/
theorem col_any (b off : Nat) (x : Nat → Nat) (hx : ∀ i, x i < 256) (t i : Nat) (ht : t < 2) (hi : i < 16) (w : World) (hc : Holds w b off x) :
    Calls Trym.prog 6 #[.pointer (some ⟨b, off, none⟩), .int .i64 t, .int .i64 i] w fun e w' => e = .returned (.int .i64 (col x t i)) ∧ w' = w := by
  have HX : Hid (∀ i, x i < 256) := hx
  have HC : Hid (Holds w b off x) := hc
  clear hx hc
  go_enter Trym.func6, Trym.ntmps6
  go_wp2_with (go_at_call 11; refine (col11 b off x HX.out t i ht hi _ HC.out).mono ?_; rintro e w' ⟨rfl, rfl⟩)
  go_ret
  exact ⟨rfl, rfl⟩
end Go.Proofs.Qxb6617294aMods
