/-
  No cell of these rows narrows 'for every input' (looked for: loops, veiled, ifaces, maps, wideKeys, modest, calm, conditions, laid).
  DERIVED. THE GIVEN ROWS OF THIS SEAT. 3 by the template 'for every input the law returns true; each argument reads behind the call as it read before'; 0 by the template 'total and deterministic' (their statements: Qxb6617294aModsTotals.lean).
  GIVEN WITH THE SEED: the statements are not yours to turn. If you find one false, say at which input.
  Laid BY PROGRAM, IN A SANDBOX (cutbox-rows.mjs): the forced cells as the released guide's own fill.sh prints them over the translation 3008065e54531e24… (all of the seat's roots in one cut). By AI agents, Wed Nov 11 2026. No macro, syntax, notation, axiom, sorry.
-/
import Derived.Test.Qxb6617294aModsChecked
import GoSem.Claim
import GoSem.ClaimJoined
import GoSem.ClaimMapViews
import Derived.JoinedTies
import Derived.KernelRfl
namespace Go.Proofs.Qxb6617294aMods
/- THE CELL 'sum', in the pinned program and in every row, IS THE sha256 OF THE DUMP (.gsa) THAT Qxb6617294aModsProg.lean LOADS. Nothing in Lean hashes anything: it is a label: what it is worth is what the hold of that sum in a sandbox is worth. -/
noncomputable def Trym.pinned : Pinned := { name := "qxb6617294amods", sum := "3008065e54531e24c78beef28933ab876ce11fba568e936e0ffe2bac503d4772", checked := Trym.checked }
namespace Rows
def none {H : Type} : Left H := { results := [], args := [] }

/-- 'zzlaws_root_b1.FnColumnsTransposeRows': WHATEVER THE INPUT: true; the input reads as it did. -/
def fnColumnsTransposeRowsSpec : ChangeSpec := { name := "fnColumnsTransposeRows", fn := fun _ => fun
  | [d] => { results := [.lit (.bool true)], args := [d] }
  | _ => none }
def fnColumnsTransposeRowsRow : OpenClaim := { program := "qxb6617294amods", sum := "3008065e54531e24c78beef28933ab876ce11fba568e936e0ffe2bac503d4772", func := "example.com/countersign/countersign/zzlaws_root_b1.FnColumnsTransposeRows", spec := "fnColumnsTransposeRows", make := .lifted ["publicsums"], apart := false }
def FnColumnsTransposeRowsSaid : Prop := fnColumnsTransposeRowsRow.holds Trym.pinned (OpenSpec.ofChange fnColumnsTransposeRowsSpec)

/-- ITS FALSE NEIGHBOUR: 'it returns false'. Refute it at one input. -/
def fnColumnsTransposeRowsWrong : ChangeSpec := { name := "fnColumnsTransposeRows", fn := fun _ => fun
  | [d] => { results := [.lit (.bool false)], args := [d] }
  | _ => none }
def FnColumnsTransposeRowsWrongFalsely : Prop := fnColumnsTransposeRowsRow.holds Trym.pinned (OpenSpec.ofChange fnColumnsTransposeRowsWrong)

/-- 'zzlaws_root_b1.FnColumnShiftByOneBit': WHATEVER THE INPUT: true; the input reads as it did. -/
def fnColumnShiftByOneBitSpec : ChangeSpec := { name := "fnColumnShiftByOneBit", fn := fun _ => fun
  | [d] => { results := [.lit (.bool true)], args := [d] }
  | _ => none }
def fnColumnShiftByOneBitRow : OpenClaim := { program := "qxb6617294amods", sum := "3008065e54531e24c78beef28933ab876ce11fba568e936e0ffe2bac503d4772", func := "example.com/countersign/countersign/zzlaws_root_b1.FnColumnShiftByOneBit", spec := "fnColumnShiftByOneBit", make := .lifted ["publicsums"], apart := false }
def FnColumnShiftByOneBitSaid : Prop := fnColumnShiftByOneBitRow.holds Trym.pinned (OpenSpec.ofChange fnColumnShiftByOneBitSpec)

/-- ITS FALSE NEIGHBOUR: 'it returns false'. Refute it at one input. -/
def fnColumnShiftByOneBitWrong : ChangeSpec := { name := "fnColumnShiftByOneBit", fn := fun _ => fun
  | [d] => { results := [.lit (.bool false)], args := [d] }
  | _ => none }
def FnColumnShiftByOneBitWrongFalsely : Prop := fnColumnShiftByOneBitRow.holds Trym.pinned (OpenSpec.ofChange fnColumnShiftByOneBitWrong)

/-- 'zzlaws_root_b1.FnFollowingIteratedSteps': WHATEVER THE INPUT: true; the input reads as it did. -/
def fnFollowingIteratedStepsSpec : ChangeSpec := { name := "fnFollowingIteratedSteps", fn := fun _ => fun
  | [d1, d2, d3] => { results := [.lit (.bool true)], args := [d1, d2, d3] }
  | _ => none }
def fnFollowingIteratedStepsRow : OpenClaim := { program := "qxb6617294amods", sum := "3008065e54531e24c78beef28933ab876ce11fba568e936e0ffe2bac503d4772", func := "example.com/countersign/countersign/zzlaws_root_b1.FnFollowingIteratedSteps", spec := "fnFollowingIteratedSteps", make := .lifted ["publicsums"], apart := false }
def FnFollowingIteratedStepsSaid : Prop := fnFollowingIteratedStepsRow.holds Trym.pinned (OpenSpec.ofChange fnFollowingIteratedStepsSpec)

/-- ITS FALSE NEIGHBOUR: 'it returns false'. Refute it at one input. -/
def fnFollowingIteratedStepsWrong : ChangeSpec := { name := "fnFollowingIteratedSteps", fn := fun _ => fun
  | [d1, d2, d3] => { results := [.lit (.bool false)], args := [d1, d2, d3] }
  | _ => none }
def FnFollowingIteratedStepsWrongFalsely : Prop := fnFollowingIteratedStepsRow.holds Trym.pinned (OpenSpec.ofChange fnFollowingIteratedStepsWrong)

end Rows
end Go.Proofs.Qxb6617294aMods
