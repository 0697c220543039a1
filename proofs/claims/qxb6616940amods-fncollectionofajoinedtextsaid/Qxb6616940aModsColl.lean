/-
  'bytealg.LastIndexByteString' at the slash, 'strings.LastIndex' at the text of one slash, 'proxy.collection' and its shim: their contracts.
-/
import Derived.Test.Qxb6616940aModsRows
import Derived.WalkKit
import Derived.ProofKit
namespace Go.Proofs.Qxb6616940aMods
open Go.ChangeShapes Go.WideShapes Go.ChangeAt Go.RowKit

/-- c is one past the last slash of s, or 0 where s has none. -/
def IsCol (s : ByteArray) (c : Nat) : Prop :=
  c ≤ s.size ∧ (∀ h : c - 1 < s.size, 0 < c → s[c - 1] = 47) ∧ ∀ i, c ≤ i → ∀ h : i < s.size, s[i] ≠ 47

theorem byte_eq {c : UInt8} (h : ((c.toNat : Int) == 47) = true) : c = 47 := by
  have h1 : (c.toNat : Int) = 47 := by simpa using h
  have h2 : c.toNat = (47 : UInt8).toNat := by show c.toNat = 47; omega
  exact UInt8.toNat_inj.1 h2
theorem byte_ne {c : UInt8} (h : ((c.toNat : Int) == 47) = false) : c ≠ 47 := by
  rintro rfl
  simp at h
theorem ret_int {k : IntKind} {a b : Int} (h : a = b) : Ending.returned (.int k a) = .returned (.int k b) := by rw [h]

set_option maxHeartbeats 400000 in
/-- LastIndexByteString at the slash is one less than the collection's length. -/
theorem last_any (s : ByteArray) (w : World) (hs : s.size ≤ maxLen) :
    Calls Trym.prog 11 #[.string s, .int .u8 47] w fun e w' => (∃ c : Nat, IsCol s c ∧ e = .returned (.int .i64 ((c : Int) - 1))) ∧ w' = w := by
  unfold maxLen at hs
  go_enter Trym.func11, Trym.ntmps11
  go_wp2
  go_loop [5] (fun i => ∃ k : Nat, k ≤ s.size ∧ i = .int .i64 ((k : Int) - 1) ∧ ∀ j, k ≤ j → ∀ h : j < s.size, s[j] ≠ 47) (fun i => (intOf i + 1).toNat)
  case atStart => exact ⟨s.size, Nat.le_refl _, rfl, fun j h1 h2 => absurd h2 (by omega)⟩
  case round =>
    obtain ⟨k, hk, rfl, hno⟩ := hrel
    by_cases hlt : 0 < k
    · go_wp2
      · rename_i hb
        go_ret
        exact ⟨⟨k, ⟨hk, fun _ _ => byte_eq hb, hno⟩, rfl⟩, rfl⟩
      · rename_i hb
        go_round
        case rel =>
          refine ⟨k - 1, by omega, by congr 1; omega, fun j h1 h2 => ?_⟩
          by_cases e : j = k - 1
          · subst e; exact byte_ne hb
          · exact hno j (by omega) h2
        case measure => simp [intOf]; omega
    · go_wp2
      go_ret
      exact ⟨⟨k, ⟨hk, fun _ h => absurd h hlt, hno⟩, ret_int (by omega)⟩, rfl⟩

set_option maxHeartbeats 400000 in
/-- strings.LastIndex at the text of one slash. -/
theorem lastIndex_any (s : ByteArray) (w : World) (hs : s.size ≤ maxLen) :
    Calls Trym.prog 10 #[.string s, .string ⟨#[47]⟩] w fun e w' => (∃ c : Nat, IsCol s c ∧ e = .returned (.int .i64 ((c : Int) - 1))) ∧ w' = w := by
  go_enter Trym.func10, Trym.ntmps10
  go_wp2_with (go_at_call 11; refine (last_any _ _ hs).mono ?_; rintro e w' ⟨⟨c, hc, rfl⟩, rfl⟩)
  go_ret
  exact ⟨⟨c, hc, rfl⟩, rfl⟩

set_option maxHeartbeats 400000 in
/-- collection(s). -/
theorem coll9_any (s : ByteArray) (w : World) (hs : s.size ≤ maxLen) :
    Calls Trym.prog 9 #[.string s] w fun e w' => (∃ c : Nat, IsCol s c ∧ e = .returned (.string (s.extract 0 c))) ∧ w' = w := by
  go_enter Trym.func9, Trym.ntmps9
  go_wp2_with (go_at_call 10; refine (lastIndex_any _ _ hs).mono ?_; rintro e w' ⟨⟨c, hc, rfl⟩, rfl⟩; have hcs := hc.1; unfold maxLen at hs)
  go_ret
  exact ⟨⟨c, hc, rfl⟩, rfl⟩

set_option maxHeartbeats 400000 in
/-- ZZcollection(s). -/
theorem coll_any (s : ByteArray) (w : World) (hs : s.size ≤ maxLen) :
    Calls Trym.prog 6 #[.string s] w fun e w' => (∃ c : Nat, IsCol s c ∧ e = .returned (.string (s.extract 0 c))) ∧ w' = w := by
  go_enter Trym.func6, Trym.ntmps6
  go_wp2_with (go_at_call 9; refine (coll9_any _ _ hs).mono ?_; rintro e w' ⟨⟨c, hc, rfl⟩, rfl⟩)
  go_ret
  exact ⟨⟨c, hc, rfl⟩, rfl⟩
end Go.Proofs.Qxb6616940aMods
