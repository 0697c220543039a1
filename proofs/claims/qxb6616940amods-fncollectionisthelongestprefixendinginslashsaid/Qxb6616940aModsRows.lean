/-
  No cell of these rows narrows 'for every input' (looked for: loops, veiled, ifaces, maps, wideKeys, modest, calm, conditions, laid).
  DERIVED. THE GIVEN ROWS OF THIS SEAT. 2 by the template 'for every input the law returns true; each argument reads behind the call as it read before'; 0 by the template 'total and deterministic' (their statements: Qxb6616940aModsTotals.lean).
  GIVEN WITH THE SEED: the statements are not yours to turn. If you find one false, say at which input.
  Laid BY PROGRAM, IN A SANDBOX (cutbox-rows.mjs): the forced cells as the released guide's own fill.sh prints them over the translation f9c959b500e785c1… (all of the seat's roots in one cut). By AI agents, Wed Nov 11 2026. No macro, syntax, notation, axiom, sorry.
-/
import Derived.Test.Qxb6616940aModsChecked
import GoSem.Claim
import GoSem.ClaimJoined
import GoSem.ClaimMapViews
import Derived.JoinedTies
import Derived.KernelRfl
namespace Go.Proofs.Qxb6616940aMods
/- THE CELL 'sum', in the pinned program and in every row, IS THE sha256 OF THE DUMP (.gsa) THAT Qxb6616940aModsProg.lean LOADS. Nothing in Lean hashes anything: it is a label: what it is worth is what the hold of that sum in a sandbox is worth. -/
noncomputable def Trym.pinned : Pinned := { name := "qxb6616940amods", sum := "f9c959b500e785c1f3133e0048977cf9eecbb18b665ae6e9bd3ab65421059b5b", checked := Trym.checked }
namespace Rows
def none {H : Type} : Left H := { results := [], args := [] }

/-- 'zzlaws_internal_proxy_b1.FnCollectionIsTheLongestPrefixEndingInSlash': WHATEVER THE INPUT: true; the input reads as it did. -/
def fnCollectionIsTheLongestPrefixEndingInSlashSpec : ChangeSpec := { name := "fnCollectionIsTheLongestPrefixEndingInSlash", fn := fun _ => fun
  | [d] => { results := [.lit (.bool true)], args := [d] }
  | _ => none }
def fnCollectionIsTheLongestPrefixEndingInSlashRow : OpenClaim := { program := "qxb6616940amods", sum := "f9c959b500e785c1f3133e0048977cf9eecbb18b665ae6e9bd3ab65421059b5b", func := "example.com/concordat/concordat/zzlaws_internal_proxy_b1.FnCollectionIsTheLongestPrefixEndingInSlash", spec := "fnCollectionIsTheLongestPrefixEndingInSlash", make := .lifted ["publicsums"], apart := false }
def FnCollectionIsTheLongestPrefixEndingInSlashSaid : Prop := fnCollectionIsTheLongestPrefixEndingInSlashRow.holds Trym.pinned (OpenSpec.ofChange fnCollectionIsTheLongestPrefixEndingInSlashSpec)

/-- ITS FALSE NEIGHBOUR: 'it returns false'. Refute it at one input. -/
def fnCollectionIsTheLongestPrefixEndingInSlashWrong : ChangeSpec := { name := "fnCollectionIsTheLongestPrefixEndingInSlash", fn := fun _ => fun
  | [d] => { results := [.lit (.bool false)], args := [d] }
  | _ => none }
def FnCollectionIsTheLongestPrefixEndingInSlashWrongFalsely : Prop := fnCollectionIsTheLongestPrefixEndingInSlashRow.holds Trym.pinned (OpenSpec.ofChange fnCollectionIsTheLongestPrefixEndingInSlashWrong)

/-- 'zzlaws_internal_proxy_b1.FnCollectionOfAJoinedText': WHATEVER THE INPUT: true; the input reads as it did. -/
def fnCollectionOfAJoinedTextSpec : ChangeSpec := { name := "fnCollectionOfAJoinedText", fn := fun _ => fun
  | [d1, d2] => { results := [.lit (.bool true)], args := [d1, d2] }
  | _ => none }
def fnCollectionOfAJoinedTextRow : OpenClaim := { program := "qxb6616940amods", sum := "f9c959b500e785c1f3133e0048977cf9eecbb18b665ae6e9bd3ab65421059b5b", func := "example.com/concordat/concordat/zzlaws_internal_proxy_b1.FnCollectionOfAJoinedText", spec := "fnCollectionOfAJoinedText", make := .lifted ["publicsums"], apart := false }
def FnCollectionOfAJoinedTextSaid : Prop := fnCollectionOfAJoinedTextRow.holds Trym.pinned (OpenSpec.ofChange fnCollectionOfAJoinedTextSpec)

/-- ITS FALSE NEIGHBOUR: 'it returns false'. Refute it at one input. -/
def fnCollectionOfAJoinedTextWrong : ChangeSpec := { name := "fnCollectionOfAJoinedText", fn := fun _ => fun
  | [d1, d2] => { results := [.lit (.bool false)], args := [d1, d2] }
  | _ => none }
def FnCollectionOfAJoinedTextWrongFalsely : Prop := fnCollectionOfAJoinedTextRow.holds Trym.pinned (OpenSpec.ofChange fnCollectionOfAJoinedTextWrong)

end Rows
end Go.Proofs.Qxb6616940aMods
