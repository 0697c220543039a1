/-
  The collection of a joined text: the plain law; 'zzHasSlash' and the law's own bound: their contracts.
-/
import Derived.Test.Qxb6616940aModsPlain
namespace Go.Proofs.Qxb6616940aMods
open Go.ChangeShapes Go.WideShapes Go.ChangeAt Go.RowKit

/-- Has b a slash? -/
def HasSlash (b : ByteArray) : Prop := ∃ i, ∃ h : i < b.size, b[i] = 47

theorem coll_of_slash {b t : ByteArray} (h : IsColl b t) (hs : HasSlash b) : 0 < t.size := by
  obtain ⟨i, hi, e⟩ := hs
  rcases Nat.eq_zero_or_pos t.size with hz | hz
  · exact absurd e (h.rest i (by omega) hi)
  · exact hz
theorem getElem_pre {s t : ByteArray} (h : s.extract 0 t.size = t) (i : Nat) (hi : i < t.size) (hs : i < s.size) : t[i] = s[i] := by
  have e : (s.extract 0 t.size)[i]'(by rw [h]; exact hi) = s[i] := by simp [ByteArray.getElem_extract]
  rw [← e]
  congr 1
  exact h.symm
theorem coll_of_none {b t : ByteArray} (h : IsColl b t) (hs : ¬ HasSlash b) : t.size = 0 := by
  rcases Nat.eq_zero_or_pos t.size with hz | hz
  · exact hz
  · refine absurd ⟨t.size - 1, by have := h.le; omega, ?_⟩ hs
    rw [← getElem_pre h.pre (t.size - 1) (by omega) (by have := h.le; omega)]
    exact h.last (by omega)

/-- b has a slash: the collection of a+b is a followed by b's. -/
theorem join_slash {a b t : ByteArray} (h : IsColl b t) (hp : 0 < t.size) : IsColl (a ++ b) (a ++ t) := by
  refine ⟨by have := h.le; simp; omega, ?_, fun hl => ?_, fun i h1 h2 => ?_⟩
  · have e := h.pre
    have e2 : a.extract 0 (a.size + t.size) = a := by
      apply ByteArray.ext
      simp only [ByteArray.data_extract]
      apply Array.extract_eq_self_of_le
      simp only [ByteArray.size_data]
      omega
    simp [ByteArray.extract_append, e, e2]
  · have : (a ++ t)[(a ++ t).size - 1] = t[t.size - 1]'(by omega) := by
      rw [ByteArray.getElem_append_right (by simp; omega)]
      congr 1
      simp; omega
    rw [this]; exact h.last (by omega)
  · simp at h1 h2
    rw [ByteArray.getElem_append_right (by omega)]
    exact h.rest _ (by omega) _

/-- b has none: it is a's. -/
theorem join_none {a b t : ByteArray} (h : IsColl a t) (hs : ¬ HasSlash b) : IsColl (a ++ b) t := by
  refine ⟨by have := h.le; simp; omega, ?_, h.last, fun i h1 h2 => ?_⟩
  · have e := h.pre
    have := h.le
    have e2 : b.extract 0 0 = ByteArray.empty := by simp
    have e3 : t.size - a.size = 0 := by omega
    simp [ByteArray.extract_append, e, e3]
  · by_cases hi : i < a.size
    · rw [ByteArray.getElem_append_left hi]; exact h.rest i h1 hi
    · rw [ByteArray.getElem_append_right (by omega)]
      exact fun e => hs ⟨_, _, e⟩

theorem list_ne {t : ByteArray} (h : 0 < t.size) : ¬ t.toList = [] := by
  intro e
  have := ByteArray.size_eq_zero_iff.2 ((toList_nil_iff_emptyBytes t).1 e)
  omega
theorem empty_eq {t : ByteArray} (h : t.size = 0) : t = ⟨#[]⟩ := ByteArray.size_eq_zero_iff.1 h

set_option maxHeartbeats 400000 in
/-- zzHasSlash. -/
theorem has_yes (s : ByteArray) (w : World) (hs : s.size ≤ maxLen) (h : HasSlash s) :
    Calls Trym.prog 8 #[.string s] w fun e w' => e = .returned (.bool true) ∧ w' = w := by
  unfold maxLen at hs
  have H : Hid (HasSlash s) := h
  clear h
  go_enter Trym.func8, Trym.ntmps8
  go_wp2
  go_loop [3] (fun i => ∃ k : Nat, k ≤ s.size ∧ i = .int .i64 k ∧ ∀ j, j < k → ∀ h : j < s.size, s[j] ≠ 47) (fun i => s.size - (intOf i).toNat)
  case atStart => exact ⟨0, Nat.zero_le _, rfl, fun j h1 => absurd h1 (by omega)⟩
  case round =>
    obtain ⟨k, hk, rfl, hno⟩ := hrel
    by_cases hlt : k < s.size
    · go_wp2
      · go_ret
        exact ⟨rfl, rfl⟩
      · rename_i hb
        go_round
        case rel =>
          refine ⟨k + 1, by omega, by go_num, fun j h1 h2 => ?_⟩
          by_cases e : j = k
          · subst e; exact byte_ne hb
          · exact hno j (by omega) h2
        case measure => simp [intOf]; omega
    · obtain ⟨i, hi, e⟩ := H.out
      exact absurd e (hno i (by omega) hi)

set_option maxHeartbeats 400000 in
theorem has_no (s : ByteArray) (w : World) (hs : s.size ≤ maxLen) (h : ¬ HasSlash s) :
    Calls Trym.prog 8 #[.string s] w fun e w' => e = .returned (.bool false) ∧ w' = w := by
  unfold maxLen at hs
  have H : Hid (¬ HasSlash s) := h
  clear h
  go_enter Trym.func8, Trym.ntmps8
  go_wp2
  go_loop [3] (fun i => ∃ k : Nat, k ≤ s.size ∧ i = .int .i64 k) (fun i => s.size - (intOf i).toNat)
  case atStart => exact ⟨0, Nat.zero_le _, rfl⟩
  case round =>
    obtain ⟨k, hk, rfl⟩ := hrel
    by_cases hlt : k < s.size
    · have hne : ((s[k].toNat : Int) == 47) = false := byte_no fun e => H.out ⟨k, hlt, e⟩
      go_wp2
      go_round
      case rel => exact ⟨k + 1, by omega, by go_num⟩
      case measure => simp [intOf]; omega
    · go_wp2
      go_ret
      exact ⟨rfl, rfl⟩

/-- The law's own bound on the two texts' lengths. -/
theorem bytes7_no (a b : ByteArray) (w : World) (ha : a.size ≤ maxLen) (hb : b.size ≤ maxLen) (h : 1048576 < a.size + b.size) :
    Calls Trym.prog 7 #[.string a, .string b] w fun e w' => e = .returned (.bool false) ∧ w' = w := by
  unfold maxLen at ha hb
  by_cases h1 : 1048576 < (a.size : Int)
  · go_enter Trym.func7, Trym.ntmps7
    go_wp2
    go_ret
    exact ⟨rfl, rfl⟩
  · by_cases h2 : 1048576 < (b.size : Int)
    · go_enter Trym.func7, Trym.ntmps7
      go_wp2
      go_ret
      exact ⟨rfl, rfl⟩
    · have h3 : 1048576 < (a.size : Int) + b.size := by omega
      go_enter Trym.func7, Trym.ntmps7
      go_wp2
      go_ret
      exact ⟨rfl, rfl⟩
theorem bytes7_yes (a b : ByteArray) (w : World) (h : a.size + b.size ≤ 1048576) :
    Calls Trym.prog 7 #[.string a, .string b] w fun e w' => e = .returned (.bool true) ∧ w' = w := by
  have h1 : ¬ 1048576 < (a.size : Int) := by omega
  have h2 : ¬ 1048576 < (b.size : Int) := by omega
  have h3 : ¬ 1048576 < (a.size : Int) + b.size := by omega
  go_enter Trym.func7, Trym.ntmps7
  go_wp2
  go_ret
  exact ⟨rfl, rfl⟩
end Go.Proofs.Qxb6616940aMods
