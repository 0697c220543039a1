/-
  'Rows.FnColumnShiftByOneBitSaid': the row's step, by the guide's template (a pointer to 32 bytes in, one bool back).
-/
import Derived.Test.Qxb6617294aModsRows
import Derived.Test.Qxb6617294aModsShiftWalk
import Derived.Test.Qxb6617294aModsOpen
import Derived.WalkKit
import Derived.ProofKit
import Derived.OpenShut
import Derived.Carry
namespace Go.Proofs.Qxb6617294aMods.fnColumnShiftByOneBit
open Go.ChangeShapes Go.WideShapes Go.ChangeAt Go.RowKit

set_option maxRecDepth 100000 in
theorem lifted (os : Os) (started : os.Started) (H : Type) (enc : TypeId × Value → H) :
    ReturnsInHanded {} Trym.checked os 4 .any (Rows.fnColumnShiftByOneBitSpec.pre6 enc Trym.prog Trym.f4 Rows.fnColumnShiftByOneBitRow.domain false) (Rows.fnColumnShiftByOneBitSpec.post enc Trym.prog Trym.f4 false true false false) := by
  refine returnsInHanded_of_change (C := Trym.checked) Trym.own started (by kernel_rfl) Trym.func4
    (ChangeSpec.witness6 (enc := enc) (C := Trym.checked) false ⟨#[], #[.pointer none], []⟩ 8 (by kernel_rfl) (by kernel_rfl) (by kernel_rfl) (by kernel_rfl)) ?_
  intro W base args ds gs before hval0 hW hcnd _
  have hval : ∀ (j : Nat) t v, Trym.f4.params[j]? = some t → args[j]? = some v → Value.okWide Trym.prog W .any base t v := hval0
  have hW' := hW
  obtain ⟨p, q, hA0, hV, rfl, hfz, hnd⟩ := hW
  have hA : DataW.TrodAll enc Trym.prog W 0 (fun _ => true) true Trym.f4.params.toList args.toList ds p := hA0
  rw [Trym.params4] at hA hval
  obtain ⟨v0, d0, rfl, rfl, h0⟩ := trodAll_one hA
  obtain ⟨rfl, rfl⟩ := trodVars_none hV
  clear hA0 hval0
  simp only [List.append_nil] at hW'
  have hlt : ∀ y ∈ p, y.block < W.heap.size := fun y hy => hW'.lt y hy
  obtain ⟨W', hcall, hb, hg⟩ : ∃ R : World → Prop, Calls Trym.prog 4 #[v0] W (fun e w' => e = .returned (.bool true) ∧ R w') ∧ (∀ w', R w' → Below W.heap.size W w') ∧ (∀ w', R w' → Grown W w') := by
    rcases open_bytes (hval 0 22 v0 rfl rfl) h0 with rfl | ⟨b, off, x, rfl, hx, hc, hbl⟩
    · exact ⟨fun w' => w' = W, shift_nil W, fun w' h => by rw [h]; exact Below.refl _ _, fun w' h => by rw [h]; exact Grown.refl _⟩
    · exact ⟨fun w' => Below W.heap.size W w' ∧ Grown W w', shift_walk b off x hx W hbl hc, fun _ h => h.1, fun _ h => h.2⟩
  refine hcall.mono fun e w' ⟨he, hr⟩ => ?_
  subst he
  exact ⟨_, rfl, post_of_same (pa := p) (pv := []) hW' (fun _ _ _ => trodAll_mk1 (shut_bool Trym.underlying4 _)) (fun sp hsp => trodAll_mk1 (WideElems.Trod_stays Trym.laidOut (by kernel_rfl) (of_decide_eq_true (by kernel_rfl)) h0 (fun y hy => (hb w' hr).same (hlt y hy)) hsp)) (fun _ _ => rfl) (by simp)
    ((hg w' hr).frame _) (hg w' hr).2.1 (ok_one (by kernel_rfl) rfl (okWide_bool_mk Trym.underlying4 _))⟩

theorem over : Rows.fnColumnShiftByOneBitRow.holds Trym.pinned (OpenSpec.ofChange Rows.fnColumnShiftByOneBitSpec) :=
  OpenClaim.holds_of_wide 4 Trym.f4 rfl rfl rfl rfl rfl rfl rfl ⟨rfl, rfl, rfl, rfl, rfl⟩ rfl rfl rfl rfl rfl (by kernel_rfl) Trym.func4 (by kernel_rfl)
    (of_decide_eq_true (by kernel_rfl)) (by unfold Func.isWrapper; first | (rw [if_pos (by decide +kernel)]; kernel_rfl) | (rw [if_neg (by decide +kernel)]; exact ⟨rfl, rfl⟩))
    (fun os started H enc _ => lifted os started H enc)

/-- The statement. -/
theorem proved : Rows.FnColumnShiftByOneBitSaid :=
  over
end Go.Proofs.Qxb6617294aMods.fnColumnShiftByOneBit
