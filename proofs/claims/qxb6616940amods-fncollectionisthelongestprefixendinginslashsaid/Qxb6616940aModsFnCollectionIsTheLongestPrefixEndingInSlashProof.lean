/-
  'Rows.FnCollectionIsTheLongestPrefixEndingInSlashSaid', proved: the shell that the kit's tool wrote for this function, its walk filled in.
-/
import Derived.Test.Qxb6616940aModsRows
import Derived.Test.Qxb6616940aModsPlain
import Derived.WalkKit
import Derived.ProofKit
import Derived.OpenShut
import Derived.ShutString
namespace Go.Proofs.Qxb6616940aMods.fnCollectionIsTheLongestPrefixEndingInSlash
open Go.ChangeShapes Go.WideShapes Go.ChangeAt Go.RowKit
open Go.ChangeMaps (open_string shut_string)
set_option linter.unusedVariables false      -- a walk need not use every 'w<i>' (that an integer argument fits its kind)

theorem own : ownKnob Trym.prog.godebug = none := by kernel_rfl

/-- The law's own bound on the text's length. -/
theorem bytes_no (s : ByteArray) (w : World) (hs : s.size ≤ maxLen) (h : 1048576 < s.size) :
    Calls Trym.prog 5 #[.string s] w fun e w' => e = .returned (.bool false) ∧ w' = w := by
  unfold maxLen at hs
  have h' : 1048576 < (s.size : Int) := by omega
  go_enter Trym.func5, Trym.ntmps5
  go_wp2
  go_ret
  exact ⟨rfl, rfl⟩
theorem bytes_yes (s : ByteArray) (w : World) (h : s.size ≤ 1048576) :
    Calls Trym.prog 5 #[.string s] w fun e w' => e = .returned (.bool true) ∧ w' = w := by
  have h' : ¬ 1048576 < (s.size : Int) := by omega
  go_enter Trym.func5, Trym.ntmps5
  go_wp2
  go_ret
  exact ⟨rfl, rfl⟩

/-! ### STEP 1: THE WALK: the Go text returns true. 'Grown w w'': the world has at most new blocks (Derived/RowKit3.lean). Part the cases AHEAD of 'go_enter' where a test parts the walk; take each callee by a contract of your own. -/
theorem walk (a0 : ByteArray) (w0 : a0.size ≤ maxLen) (w : World) :
    Calls Trym.prog 3 #[.string a0] w fun e w' => e = .returned (.bool true) ∧ Grown w w' := by
  by_cases hb : 1048576 < a0.size
  · go_enter Trym.func3, Trym.ntmps3
    go_wp2_with (go_at_call 5; refine (bytes_no _ _ w0 hb).mono ?_; rintro e w' ⟨rfl, rfl⟩)
    go_ret
    exact ⟨rfl, Grown.refl _⟩
  · have hb1 : a0.size ≤ 1048576 := by omega
    have hb2 : ¬ 1048576 < (a0.size : Int) := by omega
    clear hb
    go_enter Trym.func3, Trym.ntmps3
    go_wp2_with (first
      | (go_at_call 5; refine (bytes_yes _ _ hb1).mono ?_; rintro e w' ⟨rfl, rfl⟩)
      | (go_at_call 6; refine (coll_t _ _ w0).mono ?_; rintro e w' ⟨⟨t, ht, rfl⟩, rfl⟩; have hle := ht.le; have hpre := ht.pre))
    · rename_i hne
      exact absurd (ht.last (by omega)) (byte_ne2 hne)
    all_goals
      have hm : t.size ≤ maxLen := Nat.le_trans hle w0
      go_loop [4] (fun i => ∃ k : Nat, t.size ≤ k ∧ k ≤ a0.size ∧ i = .int .i64 k) (fun i => a0.size - (intOf i).toNat)
      case atStart => exact ⟨t.size, Nat.le_refl _, hle, rfl⟩
      case round =>
        obtain ⟨k, hk1, hk2, rfl⟩ := hrel
        by_cases hlt : k < a0.size
        · have hne : ((a0[k].toNat : Int) == 47) = false := byte_no (ht.rest k hk1 hlt)
          go_wp2
          go_round
          case rel => exact ⟨k + 1, by omega, by omega, by go_num⟩
          case measure => simp [intOf]; omega
        · go_wp2_with (go_at_call 6; refine (coll_t _ _ hm).mono ?_; rintro e w' ⟨⟨u, hu, rfl⟩, rfl⟩; obtain rfl := again ht hu)
          go_ret
          exact ⟨by first | rfl | simp, Grown.refl _⟩

/-! ### THE ROW's STEP: WRITTEN OUT: LEAVE IT -/
set_option maxRecDepth 100000 in
theorem lifted (os : Os) (started : os.Started) (H : Type) (enc : TypeId × Value → H) :
    ReturnsInHanded {} Trym.checked os 3 .any (Rows.fnCollectionIsTheLongestPrefixEndingInSlashSpec.pre6 enc Trym.prog Trym.f3 Rows.fnCollectionIsTheLongestPrefixEndingInSlashRow.domain false) (Rows.fnCollectionIsTheLongestPrefixEndingInSlashSpec.post enc Trym.prog Trym.f3 false true false false) := by
  refine returnsInHanded_of_change (C := Trym.checked) own started (by kernel_rfl) Trym.func3
    (ChangeSpec.witness6 (enc := enc) (C := Trym.checked) false ⟨#[], #[.string ByteArray.empty], []⟩ 8 (by kernel_rfl) (by kernel_rfl) (by kernel_rfl) (by kernel_rfl)) ?_
  intro W base args ds gs before hval0 hW hcnd _
  have hval : ∀ (j : Nat) t v, Trym.f3.params[j]? = some t → args[j]? = some v → Value.okWide Trym.prog W .any base t v := hval0
  have hW' := hW
  obtain ⟨p, q, hA0, hV, rfl, hfz, hnd⟩ := hW
  have hA : DataW.TrodAll enc Trym.prog W 0 (fun _ => true) true Trym.f3.params.toList args.toList ds p := hA0
  rw [Trym.params3] at hA hval
  obtain ⟨v0, vs0, d0, ds0, p0, q0, hargs, rfl, rfl, h0, r0⟩ := trodAll_cons hA
  obtain ⟨rfl, rfl, rfl⟩ := trodAll_nil r0
  obtain rfl : args = #[v0] := by cases args; simp_all
  obtain ⟨rfl, rfl⟩ := trodVars_none hV
  obtain ⟨a0, rfl, rfl, rfl, w0⟩ := open_string Trym.underlying9 (hval 0 9 v0 rfl rfl) h0
  clear hA0 hval0
  simp only [List.append_nil] at hW'
  refine (walk a0 w0 W).mono fun e W' ⟨he, hg⟩ => ?_
  subst he
  exact ⟨_, rfl, post_of_same (pa := []) (pv := []) hW' (fun _ _ _ => (trodAll_cons_mk (shut_bool Trym.underlying4 _) trodAll_mk0)) (fun sp _ => (trodAll_cons_mk (shut_string Trym.underlying9 w0) trodAll_mk0)) (fun _ _ => rfl) rfl
    (hg.frame _) hg.2.1 (ok_one (by kernel_rfl) rfl (okWide_bool_mk Trym.underlying4 _))⟩

theorem over : Rows.fnCollectionIsTheLongestPrefixEndingInSlashRow.holds Trym.pinned (OpenSpec.ofChange Rows.fnCollectionIsTheLongestPrefixEndingInSlashSpec) :=
  OpenClaim.holds_of_wide 3 Trym.f3 rfl rfl rfl rfl rfl rfl rfl ⟨rfl, rfl, rfl, rfl, rfl⟩ rfl rfl rfl rfl rfl (by kernel_rfl) Trym.func3 (by kernel_rfl)
    (of_decide_eq_true (by kernel_rfl)) (by unfold Func.isWrapper; first | (rw [if_pos (by decide +kernel)]; kernel_rfl) | (rw [if_neg (by decide +kernel)]; exact ⟨rfl, rfl⟩))
    (fun os started H enc _ => lifted os started H enc)

/-- ████ THE STATEMENT ████ -/
theorem proved : Rows.FnCollectionIsTheLongestPrefixEndingInSlashSaid :=
  over
end Go.Proofs.Qxb6616940aMods.fnCollectionIsTheLongestPrefixEndingInSlash
