/-
  No cell of these rows narrows 'for every input' (looked for: loops, veiled, ifaces, maps, wideKeys, modest, calm, conditions, laid).
  DERIVED. THE GIVEN ROWS OF THIS SEAT. 1 by the template 'for every input the law returns true; each argument reads behind the call as it read before'; 0 by the template 'total and deterministic' (their statements: Qxb6612220aTotals.lean).
  GIVEN WITH THE SEED: the statements are not yours to turn. If you find one false, say at which input.
  Laid BY PROGRAM, IN A SANDBOX (cutbox-rows.mjs): the forced cells as the released guide's own fill.sh prints them over the translation ae10434f1dd15c26… (all of the seat's roots in one cut). By AI agents, Wed Nov 11 2026. No macro, syntax, notation, axiom, sorry.
-/
import Derived.Test.Qxb6612220aChecked
import GoSem.Claim
import GoSem.ClaimJoined
import GoSem.ClaimMapViews
import Derived.JoinedTies
import Derived.KernelRfl
namespace Go.Proofs.Qxb6612220a
/- THE CELL 'sum', in the pinned program and in every row, IS THE sha256 OF THE DUMP (.gsa) THAT Qxb6612220aProg.lean LOADS. Nothing in Lean hashes anything: it is a label: what it is worth is what the hold of that sum in a sandbox is worth. -/
noncomputable def Try.pinned : Pinned := { name := "qxb6612220a", sum := "ae10434f1dd15c260c76ffd3ab2f416f690ecebe5feb0d044b76c8037f91a0d8", checked := Try.checked }
namespace Rows
def none {H : Type} : Left H := { results := [], args := [] }

/-- 'zzlaws_object_b1.FnShortIgnoresHighBitsAndLengthBitsSuffice': WHATEVER THE INPUT: true; the input reads as it did. -/
def fnShortIgnoresHighBitsAndLengthBitsSufficeSpec : ChangeSpec := { name := "fnShortIgnoresHighBitsAndLengthBitsSuffice", fn := fun _ => fun
  | [d1, d2, d3] => { results := [.lit (.bool true)], args := [d1, d2, d3] }
  | _ => none }
def fnShortIgnoresHighBitsAndLengthBitsSufficeRow : OpenClaim := { program := "qxb6612220a", sum := "ae10434f1dd15c260c76ffd3ab2f416f690ecebe5feb0d044b76c8037f91a0d8", func := "example.com/treewright/treewright/zzlaws_object_b1.FnShortIgnoresHighBitsAndLengthBitsSuffice", spec := "fnShortIgnoresHighBitsAndLengthBitsSuffice", apart := false }
def FnShortIgnoresHighBitsAndLengthBitsSufficeSaid : Prop := fnShortIgnoresHighBitsAndLengthBitsSufficeRow.holds Try.pinned (OpenSpec.ofChange fnShortIgnoresHighBitsAndLengthBitsSufficeSpec)

/-- ITS FALSE NEIGHBOUR: 'it returns false'. Refute it at one input. -/
def fnShortIgnoresHighBitsAndLengthBitsSufficeWrong : ChangeSpec := { name := "fnShortIgnoresHighBitsAndLengthBitsSuffice", fn := fun _ => fun
  | [d1, d2, d3] => { results := [.lit (.bool false)], args := [d1, d2, d3] }
  | _ => none }
def FnShortIgnoresHighBitsAndLengthBitsSufficeWrongFalsely : Prop := fnShortIgnoresHighBitsAndLengthBitsSufficeRow.holds Try.pinned (OpenSpec.ofChange fnShortIgnoresHighBitsAndLengthBitsSufficeWrong)

end Rows
end Go.Proofs.Qxb6612220a
