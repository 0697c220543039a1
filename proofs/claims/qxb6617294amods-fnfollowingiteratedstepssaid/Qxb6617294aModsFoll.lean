/-
  'FnFollowingIteratedSteps': the plain law and the walk.
-/
import Derived.Test.Qxb6617294aModsWin
namespace Go.Proofs.Qxb6617294aMods
open Go.ChangeShapes Go.WideShapes Go.ChangeAt Go.RowKit

/-- Where the window (F, L) starts when it has been followed n times; 0 where no such window is left. -/
def wf (F L : Int) (n : Nat) : Int := if F + n * L ≤ 18446744073709551615 then F + n * L else 0
/-- How long it is then. -/
def wl (F L : Int) (n : Nat) : Int := if F + n * L ≤ 18446744073709551615 then L else 0

theorem wf_zero (F L : Int) (h : F ≤ 18446744073709551615) : wf F L 0 = F ∧ wl F L 0 = L := by
  have e : F + ((0 : Nat) : Int) * L = F := by simp
  unfold wf wl
  rw [e, if_pos h, if_pos h]
  exact ⟨rfl, rfl⟩
theorem next_sum (F L : Int) (n : Nat) : F + ((n + 1 : Nat) : Int) * L = F + n * L + L := by
  rw [Int.natCast_add, Int.add_mul]; simp; omega
theorem prod_nn (L : Int) (n : Nat) (h : 0 ≤ L) : 0 ≤ (n : Int) * L := Int.mul_nonneg (by omega) h
theorem wf_bd (F L : Int) (n : Nat) (hF : 0 ≤ F) (hL : 0 ≤ L) (hL' : L ≤ 18446744073709551615) : 0 ≤ wf F L n ∧ wf F L n ≤ 18446744073709551615 ∧ 0 ≤ wl F L n ∧ wl F L n ≤ 18446744073709551615 := by
  have hp := prod_nn L n hL
  unfold wf wl
  split <;> omega

set_option maxHeartbeats 400000 in
/-- Following, along the road. -/
theorem foll_step (F L : Int) (n : Nat) (hF : 0 ≤ F) (hL : 0 ≤ L) (hL' : L ≤ 18446744073709551615) (w : World) :
    Calls Trym.prog 9 #[.agg #[.int .u64 (wf F L n), .int .u64 (wl F L n)]] w fun e w' => e = .returned (.agg #[.int .u64 (wf F L (n + 1)), .int .u64 (wl F L (n + 1))]) ∧ Fresh w w' := by
  have hp := prod_nn L n hL
  have hs := next_sum F L n
  by_cases h : F + n * L ≤ 18446744073709551615
  · have e1 : wf F L n = F + n * L := if_pos h
    have e2 : wl F L n = L := if_pos h
    rw [e1, e2]
    by_cases h2 : F + n * L + L ≤ 18446744073709551615
    · have e3 : wf F L (n + 1) = F + n * L + L := by unfold wf; rw [hs, if_pos h2]
      have e4 : wl F L (n + 1) = L := by unfold wl; rw [hs, if_pos h2]
      rw [e3, e4]
      exact foll_yes _ _ w (by omega) hL h2
    · have e3 : wf F L (n + 1) = 0 := by unfold wf; rw [hs, if_neg h2]
      have e4 : wl F L (n + 1) = 0 := by unfold wl; rw [hs, if_neg h2]
      rw [e3, e4]
      exact foll_no _ _ w (by omega) h hL' (by omega)
  · have e1 : wf F L n = 0 := if_neg h
    have e2 : wl F L n = 0 := if_neg h
    have h2 : ¬ F + n * L + L ≤ 18446744073709551615 := by omega
    have e3 : wf F L (n + 1) = 0 := by unfold wf; rw [hs, if_neg h2]
    have e4 : wl F L (n + 1) = 0 := by unfold wl; rw [hs, if_neg h2]
    rw [e1, e2, e3, e4]
    exact foll_yes 0 0 w (by omega) (by omega) (by omega)

theorem wrap_u64_small (n : Int) (h0 : 0 ≤ n) (h1 : n ≤ 18446744073709551615) : IntKind.u64.wrap n = n := by
  simp [IntKind.wrap, IntKind.bits, IntKind.signed]
  omega
/-- It fits: where the law's own text puts the window. -/
theorem fit_yes (F L : Int) (K : Nat) (hF : 0 ≤ F) (hL : 0 ≤ L) (h : F + K * L ≤ 18446744073709551615) :
    (wf F L K == IntKind.u64.wrap (F + IntKind.u64.wrap (K * L))) = true ∧ (wl F L K == L) = true := by
  have hp := prod_nn L K hL
  have e1 : wf F L K = F + K * L := if_pos h
  have e2 : wl F L K = L := if_pos h
  rw [e1, e2, wrap_u64_small (K * L) hp (by omega), wrap_u64_small _ (by omega) h]
  simp
theorem fit_no (F L : Int) (K : Nat) (h : ¬ F + K * L ≤ 18446744073709551615) : (wf F L K == 0) = true ∧ (wl F L K == 0) = true := by
  have e1 : wf F L K = 0 := if_neg h
  have e2 : wl F L K = 0 := if_neg h
  rw [e1, e2]
  simp
theorem fits_iff (F L : Int) (K : Nat) (hL : 0 < L) : (K : Int) ≤ (18446744073709551615 - F) / L ↔ F + K * L ≤ 18446744073709551615 := by
  rw [Int.le_ediv_iff_mul_le hL]
  omega

/-- What a block held before a call that leaves new blocks it holds behind it. -/
theorem still {W w1 : World} (h : Fresh W w1) {b o : Nat} {v : Value} (hc : W.cell? ⟨b, o, none⟩ = some v) (hf : W.frozen? ⟨b, o, none⟩ = false) (hb : b < W.heap.size) :
    w1.cell? ⟨b, o, none⟩ = some v ∧ w1.frozen? ⟨b, o, none⟩ = false :=
  ⟨(h.1.cell (p := ⟨b, o, none⟩) hb).trans hc, (h.1.frozen (p := ⟨b, o, none⟩) hb).trans hf⟩

theorem grown_on {a b c : World} (h : Grown a b) (k : Grown b c) : Grown a c :=
  ⟨World.keptBut_trans h.1 k.1, fun x => (k.2.1 x).trans (h.2.1 x), Nat.le_trans h.2.2 k.2.2⟩

set_option maxHeartbeats 1000000 in
theorem foll_walk (F L : Int) (K : Nat) (hF : 0 ≤ F) (hF' : F ≤ 18446744073709551615) (hL : 0 ≤ L) (hL' : L ≤ 18446744073709551615) (hK : K ≤ 65535) (w : World) :
    Calls Trym.prog 5 #[.int .u64 F, .int .u64 L, .int .u16 K] w fun e w' => e = .returned (.bool true) ∧ Grown w w' := by
  go_enter Trym.func5, Trym.ntmps5
  go_wp2_with (go_at_call 8; refine (win_any _ _ _).mono ?_; rintro e w' ⟨rfl, rfl⟩)
  go_loopw [8] (fun i wr => ∃ n : Nat, n ≤ K ∧ i = .int .u16 n ∧ wr.cell? ⟨w.heap.size + 1, 0, none⟩ = some (.int .u64 (wf F L n)) ∧ wr.cell? ⟨w.heap.size + 1, 1, none⟩ = some (.int .u64 (wl F L n)) ∧
    wr.frozen? ⟨w.heap.size + 1, 0, none⟩ = false ∧ wr.frozen? ⟨w.heap.size + 1, 1, none⟩ = false ∧ w.heap.size + 2 ≤ wr.heap.size ∧ Grown w wr) (fun i _ => K - (intOf i).toNat)
  case atStart =>
    obtain ⟨e1, e2⟩ := wf_zero F L hF'
    refine ⟨0, by omega, rfl, ?_, ?_, ?_, ?_, ?_, ((Grown.refl _).alloc _ _).alloc _ _⟩
    · rw [e1]; simp [go_sem]
    · rw [e2]; simp [go_sem]
    · simp [go_sem]
    · simp [go_sem]
    · simp
  case round =>
    obtain ⟨n, hn, rfl, g0, g1, f0, f1, hsz, hg⟩ := hrel
    by_cases hlt : n < K
    · have hd : decide ((n : Int) < (K : Int)) = true := by simp; omega
      go_wp2_with (go_at_call 9; refine (foll_step F L n hF hL hL' _).mono ?_; rintro e w' ⟨rfl, hw⟩; obtain ⟨c0, z0⟩ := still hw g0 f0 (by omega); obtain ⟨c1, z1⟩ := still hw g1 f1 (by omega))
      go_roundw
      case rel =>
        refine ⟨n + 1, by omega, by go_num, ?_, ?_, ?_, ?_, ?_, ((grown_on hg hw.2).setCell (by show w.heap.size ≤ w.heap.size + 1; omega) _).setCell (by show w.heap.size ≤ w.heap.size + 1; omega) _⟩
        · rw [World.cell?_setCell_other _ _ _ _ (by simp)]; exact World.cell?_setCell_same _ _ _ c0
        · exact World.cell?_setCell_same _ _ _ ((World.cell?_setCell_other _ _ _ _ (by simp)).trans c1)
        · simpa using z0
        · simpa using z1
        · have := hw.1.size
          simp [World.setCell]; omega
      case measure => simp [intOf]; omega
    · have HN : Hid (n = K) := by show n = K; omega
      by_cases hz : L = 0
      · obtain ⟨t1, t2⟩ := fit_yes F L K hF hL (by rw [hz]; simp; omega)
        rw [← HN.out] at t2
        have t1' : (wf F L n == IntKind.u64.wrap (F + IntKind.u64.wrap (K * L))) = true := by rw [HN.out]; exact t1
        have hLd : (L != 0) = false := by rw [hz]; rfl
        clear t1 hz
        go_wp2_with (go_at_call 10; refine (fields_any _ _ _).mono ?_; rintro e w' ⟨rfl, hw⟩)
        go_ret
        exact ⟨rfl, grown_on hg hw.2⟩
      · by_cases hfit : (K : Int) ≤ (18446744073709551615 - F) / L
        · obtain ⟨t1, t2⟩ := fit_yes F L K hF hL ((fits_iff F L K (by omega)).1 hfit)
          rw [← HN.out] at t2
          have t1' : (wf F L n == IntKind.u64.wrap (F + IntKind.u64.wrap (K * L))) = true := by rw [HN.out]; exact t1
          clear t1
          go_wp2_with (go_at_call 10; refine (fields_any _ _ _).mono ?_; rintro e w' ⟨rfl, hw⟩)
          go_ret
          exact ⟨rfl, grown_on hg hw.2⟩
        · obtain ⟨t1, t2⟩ := fit_no F L K (fun h => hfit ((fits_iff F L K (by omega)).2 h))
          rw [← HN.out] at t1 t2
          go_wp2_with (go_at_call 10; refine (fields_any _ _ _).mono ?_; rintro e w' ⟨rfl, hw⟩)
          go_ret
          exact ⟨rfl, grown_on hg hw.2⟩
end Go.Proofs.Qxb6617294aMods
