/-
  The plain law of a collection: no Go in sight but the contract's own words at the foot.
-/
import Derived.Test.Qxb6616940aModsColl
namespace Go.Proofs.Qxb6616940aMods
open Go.ChangeShapes Go.WideShapes Go.ChangeAt Go.RowKit

theorem byte_ne2 {c : UInt8} (h : ((c.toNat : Int) != 47) = true) : c ≠ 47 := by
  rintro rfl
  simp at h
theorem byte_no {c : UInt8} (h : c ≠ 47) : ((c.toNat : Int) == 47) = false := by
  cases hb : ((c.toNat : Int) == 47) with
  | false => rfl
  | true => exact absurd (byte_eq hb) h
theorem byte_yes {c : UInt8} (h : c = 47) : ((c.toNat : Int) == 47) = true := by
  subst h; rfl

/-- t is the longest beginning of s that ends in a slash, or empty where s has none. -/
structure IsColl (s t : ByteArray) : Prop where
  le : t.size ≤ s.size
  pre : s.extract 0 t.size = t
  last : ∀ h : t.size - 1 < t.size, t[t.size - 1] = 47
  rest : ∀ i, t.size ≤ i → ∀ h : i < s.size, s[i] ≠ 47

theorem isColl_of {s : ByteArray} {c : Nat} (h : IsCol s c) : IsColl s (s.extract 0 c) := by
  obtain ⟨h1, h2, h3⟩ := h
  have e : (s.extract 0 c).size = c := by simp; omega
  refine ⟨by omega, by rw [e], fun h => ?_, fun i hi h => h3 i (by omega) h⟩
  have := h2 (by omega) (by omega)
  simp only [ByteArray.getElem_extract, e, Nat.zero_add]
  exact this

theorem size_unique {s t u : ByteArray} (ht : IsColl s t) (hu : IsColl s u) (h : t.size < u.size) : False := by
  have h1 := hu.last (by omega)
  have h2 := ht.rest (u.size - 1) (by omega) (by have := hu.le; omega)
  apply h2
  have e : u[u.size - 1]'(by omega) = s[u.size - 1]'(by have := hu.le; omega) := by
    have hp := hu.pre
    have : (s.extract 0 u.size)[u.size - 1]'(by rw [hp]; omega) = s[u.size - 1]'(by have := hu.le; omega) := by
      simp [ByteArray.getElem_extract]
    rw [← this]
    congr 1
    exact hp.symm
  rw [← e]; exact h1

theorem unique {s t u : ByteArray} (ht : IsColl s t) (hu : IsColl s u) : t = u := by
  have e : t.size = u.size := by
    rcases Nat.lt_trichotomy t.size u.size with h | h | h
    · exact (size_unique ht hu h).elim
    · exact h
    · exact (size_unique hu ht h).elim
  rw [← ht.pre, ← hu.pre, e]

/-- A collection is its own collection. -/
theorem self {s t : ByteArray} (h : IsColl s t) : IsColl t t :=
  ⟨Nat.le_refl _, by simp, h.last, fun i h1 h2 => absurd h2 (by omega)⟩

theorem again {s t u : ByteArray} (h : IsColl s t) (hu : IsColl t u) : u = t := unique hu (self h)

/-- ZZcollection(s), in these words. -/
theorem coll_t (s : ByteArray) (w : World) (hs : s.size ≤ maxLen) :
    Calls Trym.prog 6 #[.string s] w fun e w' => (∃ t : ByteArray, IsColl s t ∧ e = .returned (.string t)) ∧ w' = w :=
  (coll_any s w hs).mono fun _ _ ⟨⟨_, hc, he⟩, hw⟩ => ⟨⟨_, isColl_of hc, he⟩, hw⟩
end Go.Proofs.Qxb6616940aMods
