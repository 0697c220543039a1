/-
  No cell of these rows narrows 'for every input' (looked for: loops, veiled, ifaces, maps, wideKeys, modest, calm, conditions, laid).
  DERIVED. THE GIVEN ROWS OF THIS SEAT. 2 by the template 'for every input the law returns true; each argument reads behind the call as it read before'; 0 by the template 'total and deterministic' (their statements: Qxb6616703aModsTotals.lean).
  GIVEN WITH THE SEED: the statements are not yours to turn. If you find one false, say at which input.
  Laid BY PROGRAM, IN A SANDBOX (cutbox-rows.mjs): the forced cells as the released guide's own fill.sh prints them over the translation 3b54e18410267d5f… (all of the seat's roots in one cut). By AI agents, Wed Nov 11 2026. No macro, syntax, notation, axiom, sorry.
-/
import Derived.Test.Qxb6616703aModsChecked
import GoSem.Claim
import GoSem.ClaimJoined
import GoSem.ClaimMapViews
import Derived.JoinedTies
import Derived.KernelRfl
namespace Go.Proofs.Qxb6616703aMods
/- THE CELL 'sum', in the pinned program and in every row, IS THE sha256 OF THE DUMP (.gsa) THAT Qxb6616703aModsProg.lean LOADS. Nothing in Lean hashes anything: it is a label: what it is worth is what the hold of that sum in a sandbox is worth. -/
noncomputable def Trym.pinned : Pinned := { name := "qxb6616703amods", sum := "3b54e18410267d5f3e6de31f61455e0f02d20e43ce25fa3cc85cf3677a4cbb5c", checked := Trym.checked }
namespace Rows
def none {H : Type} : Left H := { results := [], args := [] }

/-- 'zzlaws_config_b1.FnNotPrintableASCIIFlipsOnlyAtTheEdges': WHATEVER THE INPUT: true; the input reads as it did. -/
def fnNotPrintableASCIIFlipsOnlyAtTheEdgesSpec : ChangeSpec := { name := "fnNotPrintableASCIIFlipsOnlyAtTheEdges", fn := fun _ => fun
  | [d] => { results := [.lit (.bool true)], args := [d] }
  | _ => none }
def fnNotPrintableASCIIFlipsOnlyAtTheEdgesRow : OpenClaim := { program := "qxb6616703amods", sum := "3b54e18410267d5f3e6de31f61455e0f02d20e43ce25fa3cc85cf3677a4cbb5c", func := "example.com/latchkey/latchkey/zzlaws_config_b1.FnNotPrintableASCIIFlipsOnlyAtTheEdges", spec := "fnNotPrintableASCIIFlipsOnlyAtTheEdges", make := .lifted ["publicsums"], apart := false }
def FnNotPrintableASCIIFlipsOnlyAtTheEdgesSaid : Prop := fnNotPrintableASCIIFlipsOnlyAtTheEdgesRow.holds Trym.pinned (OpenSpec.ofChange fnNotPrintableASCIIFlipsOnlyAtTheEdgesSpec)

/-- ITS FALSE NEIGHBOUR: 'it returns false'. Refute it at one input. -/
def fnNotPrintableASCIIFlipsOnlyAtTheEdgesWrong : ChangeSpec := { name := "fnNotPrintableASCIIFlipsOnlyAtTheEdges", fn := fun _ => fun
  | [d] => { results := [.lit (.bool false)], args := [d] }
  | _ => none }
def FnNotPrintableASCIIFlipsOnlyAtTheEdgesWrongFalsely : Prop := fnNotPrintableASCIIFlipsOnlyAtTheEdgesRow.holds Trym.pinned (OpenSpec.ofChange fnNotPrintableASCIIFlipsOnlyAtTheEdgesWrong)

/-- 'zzlaws_config_b1.FnNotPrintableASCIIMirrorAndNarrow': WHATEVER THE INPUT: true; the input reads as it did. -/
def fnNotPrintableASCIIMirrorAndNarrowSpec : ChangeSpec := { name := "fnNotPrintableASCIIMirrorAndNarrow", fn := fun _ => fun
  | [d] => { results := [.lit (.bool true)], args := [d] }
  | _ => none }
def fnNotPrintableASCIIMirrorAndNarrowRow : OpenClaim := { program := "qxb6616703amods", sum := "3b54e18410267d5f3e6de31f61455e0f02d20e43ce25fa3cc85cf3677a4cbb5c", func := "example.com/latchkey/latchkey/zzlaws_config_b1.FnNotPrintableASCIIMirrorAndNarrow", spec := "fnNotPrintableASCIIMirrorAndNarrow", make := .lifted ["publicsums"], apart := false }
def FnNotPrintableASCIIMirrorAndNarrowSaid : Prop := fnNotPrintableASCIIMirrorAndNarrowRow.holds Trym.pinned (OpenSpec.ofChange fnNotPrintableASCIIMirrorAndNarrowSpec)

/-- ITS FALSE NEIGHBOUR: 'it returns false'. Refute it at one input. -/
def fnNotPrintableASCIIMirrorAndNarrowWrong : ChangeSpec := { name := "fnNotPrintableASCIIMirrorAndNarrow", fn := fun _ => fun
  | [d] => { results := [.lit (.bool false)], args := [d] }
  | _ => none }
def FnNotPrintableASCIIMirrorAndNarrowWrongFalsely : Prop := fnNotPrintableASCIIMirrorAndNarrowRow.holds Trym.pinned (OpenSpec.ofChange fnNotPrintableASCIIMirrorAndNarrowWrong)

end Rows
end Go.Proofs.Qxb6616703aMods
