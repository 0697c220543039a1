/-
  The one argument of the two laws on columns: a pointer to 32 bytes: opened.
-/
import Derived.Test.Qxb6617294aModsCol
import Derived.WalkKit
import Derived.ProofKit
import Derived.OpenShut
import Derived.Carry
namespace Go.Proofs.Qxb6617294aMods
open Go.ChangeShapes Go.WideShapes Go.ChangeAt Go.RowKit

theorem Trym.own : ownKnob Trym.prog.godebug = none := by kernel_rfl
theorem Trym.laidOut : laidOutB Trym.prog = true := by kernel_rfl
theorem Trym.cells28 : Trym.prog.cellsOf 28 = 32 := by kernel_rfl
theorem Trym.cells5 : Trym.prog.cellsOf 5 = 1 := by kernel_rfl

theorem byte_of {z : Int} (h : (Lit.int .u8 z).wf = true) : ∃ k : Nat, k < 256 ∧ z = k := by
  simp [Lit.wf, IntKind.min, IntKind.max, IntKind.signed, IntKind.bits] at h
  exact ⟨z.toNat, by omega, by omega⟩

theorem open_bytes {H : Type} {enc : TypeId × Value → H} {W : World} {base : Nat} {v : Value} {d : DataW H} {p : List MemPlace}
    (hval : Value.okWide Trym.prog W .any base 22 v) (h : DataW.Trod enc Trym.prog W 0 (fun _ => true) true 22 v d p) :
    v = .pointer none ∨ ∃ b off x, v = .pointer (some ⟨b, off, none⟩) ∧ (∀ i, x i < 256) ∧ Holds W b off x ∧ b < W.heap.size := by
  rcases open_ptr Trym.underlying22 (by rw [Trym.cells28]; omega) hval h with ⟨hv, _, _⟩ | ⟨b, off, cs, y, fuel, hv, _, _, hlen, hcell, hy⟩
  · exact Or.inl hv
  · refine Or.inr ?_
    rw [Trym.cells28] at hlen hcell
    obtain ⟨xs, m, _, _, _, hxl, hel⟩ := DataW.trod_array Trym.underlying28 hy
    have each : ∀ i, ∃ k : Nat, k < 256 ∧ (i < 32 → W.cell? ⟨b, off + i, none⟩ = some (.int .u8 k)) := by
      intro i
      by_cases hi : i < 32
      · have he := hel i hi
        rw [Trym.cells5, Nat.mul_one, List.getElem?_eq_getElem (by omega)] at he
        obtain ⟨z, hz, _, hw⟩ := DataW.trod_int Trym.underlying5 he
        obtain ⟨k, hk, rfl⟩ := byte_of hw
        refine ⟨k, hk, fun _ => ?_⟩
        rw [hcell i hi]
        have : (cs.drop i).take 1 = [Value.int .u8 k] := hz
        have h2 := congrArg (fun l : List Value => l[0]?) this
        simpa using h2
      · exact ⟨0, by omega, fun h => absurd h hi⟩
    obtain ⟨x, hx⟩ := Classical.skolem.1 each
    refine ⟨b, off, x, hv, fun i => (hx i).1, fun i hi => (hx i).2 hi, ?_⟩
    have h0 := (hx 0).2 (by omega)
    rcases Nat.lt_or_ge b W.heap.size with hb | hb
    · exact hb
    · have : W.heap[b]? = none := by simp; omega
      simp [World.cell?, this] at h0
end Go.Proofs.Qxb6617294aMods
