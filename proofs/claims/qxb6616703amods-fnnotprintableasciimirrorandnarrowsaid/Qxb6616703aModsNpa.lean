/-
  The contract of 'config.ZZnotPrintableASCII' (function 5, by way of 'notPrintableASCII'), in two halves: refused, let.
-/
import Derived.Test.Qxb6616703aModsRows
import Derived.WalkKit
import Derived.ProofKit
namespace Go.Proofs.Qxb6616703aMods
open Go.ChangeShapes Go.WideShapes Go.ChangeAt Go.RowKit

/-- Outside 0x20 .. 0x7e the rune is refused; the world stands. -/
theorem npa_yes (r : Int) (w : World) (h : r < 32 ∨ 126 < r) :
    Calls Trym.prog 5 #[.int .i32 r] w fun e w' => e = .returned (.bool true) ∧ w' = w := by
  by_cases h1 : r < 32
  · clear h
    go_enter Trym.func5, Trym.ntmps5
    go_wp2
    go_ret
    exact ⟨rfl, rfl⟩
  · have h2 : 126 < r := by omega
    clear h
    go_enter Trym.func5, Trym.ntmps5
    go_wp2
    go_ret
    exact ⟨rfl, rfl⟩

/-- Inside 0x20 .. 0x7e the rune is let; the world stands. -/
theorem npa_no (r : Int) (w : World) (h1 : 32 ≤ r) (h2 : r ≤ 126) :
    Calls Trym.prog 5 #[.int .i32 r] w fun e w' => e = .returned (.bool false) ∧ w' = w := by
  have h1' : ¬ r < 32 := by omega
  have h2' : ¬ 126 < r := by omega
  go_enter Trym.func5, Trym.ntmps5
  go_wp2
  go_ret
  exact ⟨rfl, rfl⟩

/-- Is the rune refused? -/
def npaB (r : Int) : Bool := decide (r < 32 ∨ 126 < r)

/-- The contract at any rune. -/
theorem npa_any (r : Int) (w : World) :
    Calls Trym.prog 5 #[.int .i32 r] w fun e w' => e = .returned (.bool (npaB r)) ∧ w' = w := by
  by_cases h : r < 32 ∨ 126 < r
  · have e : npaB r = true := by simp [npaB, h]
    rw [e]; exact npa_yes r w h
  · have e : npaB r = false := by simp [npaB, h]
    rw [e]; exact npa_no r w (by omega) (by omega)

theorem range32 {n : Int} (h : (Lit.int .i32 n).wf = true) : -2147483648 ≤ n ∧ n ≤ 2147483647 := by
  simp [Lit.wf, IntKind.min, IntKind.max, IntKind.signed, IntKind.bits] at h
  omega
end Go.Proofs.Qxb6616703aMods
