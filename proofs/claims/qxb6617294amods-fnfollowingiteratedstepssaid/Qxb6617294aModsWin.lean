/-
  'countersign.Window': ZZWindow, At, Following, ZZWindowFields: their contracts.
-/
import Derived.Test.Qxb6617294aModsRows
import Derived.WalkKit
import Derived.ProofKit
import Derived.Deep.QuietTactic
import Derived.BigQuiet
namespace Go.Proofs.Qxb6617294aMods
open Go.ChangeShapes Go.WideShapes Go.ChangeAt Go.RowKit

/-- A call that leaves new blocks, and nothing else. -/
def Fresh (w w' : World) : Prop := Below w.heap.size w w' ∧ Grown w w'
theorem Fresh.refl (w : World) : Fresh w w := ⟨Below.refl _ _, Grown.refl _⟩
theorem Fresh.alloc {w w' : World} (h : Fresh w w') (c : Array Value) (t : TypeId) : Fresh w (w'.alloc (.cells c t)) :=
  ⟨h.1.alloc h.1.size _, h.2.alloc _ _⟩
theorem Fresh.draws {w w' : World} (h : Fresh w w') (n : Nat) : Fresh w (w'.drewN n) :=
  ⟨h.1.trans ⟨rfl, rfl, rfl, Nat.le_refl _, fun _ _ => rfl⟩, h.2⟩

theorem wrap_past {f l : Int} (h0 : 0 ≤ f) (h1' : l ≤ 18446744073709551615) (h0' : f ≤ 18446744073709551615) (h : 18446744073709551615 < f + l) : IntKind.u64.wrap (f + l) < f := by
  simp [IntKind.wrap, IntKind.bits, IntKind.signed]
  omega

set_option maxHeartbeats 400000 in
theorem win_any (f l : Int) (w : World) :
    Calls Trym.prog 8 #[.int .u64 f, .int .u64 l] w fun e w' => e = .returned (.agg #[.int .u64 f, .int .u64 l]) ∧ w' = w.alloc (.cells #[.int .u64 f, .int .u64 l] 32) := by
  go_enter Trym.func8, Trym.ntmps8
  go_wp2
  exact bodyPost_ret (v := .agg #[.int .u64 f, .int .u64 l]) (by simp [results, Trym.results8, go_sem]) rfl ⟨rfl, rfl⟩
set_option maxHeartbeats 400000 in
theorem at_any (f l n : Int) (w : World) :
    Calls Trym.prog 12 #[.agg #[.int .u64 f, .int .u64 l], .int .u64 n] w fun e w' => e = .returned (.agg #[.int .u64 n, .int .u64 l]) ∧
      w' = (w.alloc (.cells #[.int .u64 f, .int .u64 l] 32)).alloc (.cells #[.int .u64 n, .int .u64 l] 32) := by
  go_enter Trym.func12, Trym.ntmps12
  go_wp2
  exact bodyPost_ret (v := .agg #[.int .u64 n, .int .u64 l]) (by simp [results, Trym.results12, go_sem]) rfl ⟨rfl, rfl⟩
set_option maxHeartbeats 400000 in
theorem foll_yes (f l : Int) (w : World) (h0 : 0 ≤ f) (h1 : 0 ≤ l) (h : f + l ≤ 18446744073709551615) :
    Calls Trym.prog 9 #[.agg #[.int .u64 f, .int .u64 l]] w fun e w' => e = .returned (.agg #[.int .u64 (f + l), .int .u64 l]) ∧ Fresh w w' := by
  go_enter Trym.func9, Trym.ntmps9
  go_wp2_with (go_at_call 12; refine (at_any _ _ _ _).mono ?_; rintro e w' ⟨rfl, rfl⟩)
  exact bodyPost_ret (v := .agg #[.int .u64 (f + l), .int .u64 l]) (by simp [results, Trym.results9, go_sem]) rfl ⟨rfl, ((((Fresh.refl w).alloc _ _).alloc _ _).alloc _ _).alloc _ _⟩
set_option maxHeartbeats 400000 in
theorem foll_no (f l : Int) (w : World) (h0 : 0 ≤ f) (h0' : f ≤ 18446744073709551615) (h1' : l ≤ 18446744073709551615) (h : 18446744073709551615 < f + l) :
    Calls Trym.prog 9 #[.agg #[.int .u64 f, .int .u64 l]] w fun e w' => e = .returned (.agg #[.int .u64 0, .int .u64 0]) ∧ Fresh w w' := by
  have hw := wrap_past h0 h1' h0' h
  go_enter Trym.func9, Trym.ntmps9
  go_wp2
  exact bodyPost_ret (v := .agg #[.int .u64 0, .int .u64 0]) (by simp [results, Trym.results9, go_sem]) rfl ⟨rfl, ((Fresh.refl w).alloc _ _).alloc _ _⟩
set_option maxHeartbeats 400000 in
theorem fields_any (f l : Int) (w : World) :
    Calls Trym.prog 10 #[.agg #[.int .u64 f, .int .u64 l]] w fun e w' => e = .returned (.tuple #[.int .u64 f, .int .u64 l]) ∧ Fresh w w' := by
  go_enter Trym.func10, Trym.ntmps10
  go_wp2
  go_quiet (fail)
  go_wp2
  go_ret2
  exact ⟨rfl, ((Fresh.refl w).alloc _ _).draws _⟩
end Go.Proofs.Qxb6617294aMods
