/-
  No cell of these rows narrows 'for every input' (looked for: loops, veiled, ifaces, maps, wideKeys, modest, calm, conditions, laid).
  DERIVED. THE GIVEN ROWS OF THIS SEAT. 2 by the template 'for every input the law returns true; each argument reads behind the call as it read before'; 0 by the template 'total and deterministic' (their statements: Qxb6609392aTotals.lean).
  GIVEN WITH THE SEED: the statements are not yours to turn. If you find one false, say at which input.
  Laid BY PROGRAM, IN A SANDBOX (cutbox-rows.mjs): the forced cells as the released guide's own fill.sh prints them over the translation 7d4c4cd62971e925… (all of the seat's roots in one cut). By AI agents, Wed Nov 11 2026. No macro, syntax, notation, axiom, sorry.
-/
import Derived.Test.Qxb6609392aChecked
import GoSem.Claim
import GoSem.ClaimJoined
import GoSem.ClaimMapViews
import Derived.JoinedTies
import Derived.KernelRfl
namespace Go.Proofs.Qxb6609392a
/- THE CELL 'sum', in the pinned program and in every row, IS THE sha256 OF THE DUMP (.gsa) THAT Qxb6609392aProg.lean LOADS. Nothing in Lean hashes anything: it is a label: what it is worth is what the hold of that sum in a sandbox is worth. -/
noncomputable def Try.pinned : Pinned := { name := "qxb6609392a", sum := "7d4c4cd62971e92590af3ce8fd77c6029003d2b8a4851ab743ee4fdc6e1dcc4a", checked := Try.checked }
namespace Rows
def none {H : Type} : Left H := { results := [], args := [] }

/-- 'zzlaws_internal_history_b1.FnAdmittingMatchesScanModel': WHATEVER THE INPUT: true; the input reads as it did. -/
def fnAdmittingMatchesScanModelSpec : ChangeSpec := { name := "fnAdmittingMatchesScanModel", fn := fun _ => fun
  | [d1, d2, d3, d4, d5, d6, d7, d8] => { results := [.lit (.bool true)], args := [d1, d2, d3, d4, d5, d6, d7, d8] }
  | _ => none }
def fnAdmittingMatchesScanModelRow : OpenClaim := { program := "qxb6609392a", sum := "7d4c4cd62971e92590af3ce8fd77c6029003d2b8a4851ab743ee4fdc6e1dcc4a", func := "example.com/quorumtide/quorumtide/zzlaws_internal_history_b1.FnAdmittingMatchesScanModel", spec := "fnAdmittingMatchesScanModel", unfollowed := true, recurses := true, apart := false }
def FnAdmittingMatchesScanModelSaid : Prop := fnAdmittingMatchesScanModelRow.holds Try.pinned (OpenSpec.ofChange fnAdmittingMatchesScanModelSpec)

/-- ITS FALSE NEIGHBOUR: 'it returns false'. Refute it at one input. -/
def fnAdmittingMatchesScanModelWrong : ChangeSpec := { name := "fnAdmittingMatchesScanModel", fn := fun _ => fun
  | [d1, d2, d3, d4, d5, d6, d7, d8] => { results := [.lit (.bool false)], args := [d1, d2, d3, d4, d5, d6, d7, d8] }
  | _ => none }
def FnAdmittingMatchesScanModelWrongFalsely : Prop := fnAdmittingMatchesScanModelRow.holds Try.pinned (OpenSpec.ofChange fnAdmittingMatchesScanModelWrong)

/-- 'zzlaws_internal_history_b1.FnAdmittingCompletedWritesNoWriteBetween': WHATEVER THE INPUT: true; the input reads as it did. -/
def fnAdmittingCompletedWritesNoWriteBetweenSpec : ChangeSpec := { name := "fnAdmittingCompletedWritesNoWriteBetween", fn := fun _ => fun
  | [d1, d2, d3, d4, d5] => { results := [.lit (.bool true)], args := [d1, d2, d3, d4, d5] }
  | _ => none }
def fnAdmittingCompletedWritesNoWriteBetweenRow : OpenClaim := { program := "qxb6609392a", sum := "7d4c4cd62971e92590af3ce8fd77c6029003d2b8a4851ab743ee4fdc6e1dcc4a", func := "example.com/quorumtide/quorumtide/zzlaws_internal_history_b1.FnAdmittingCompletedWritesNoWriteBetween", spec := "fnAdmittingCompletedWritesNoWriteBetween", unfollowed := true, recurses := true, apart := false }
def FnAdmittingCompletedWritesNoWriteBetweenSaid : Prop := fnAdmittingCompletedWritesNoWriteBetweenRow.holds Try.pinned (OpenSpec.ofChange fnAdmittingCompletedWritesNoWriteBetweenSpec)

/-- ITS FALSE NEIGHBOUR: 'it returns false'. Refute it at one input. -/
def fnAdmittingCompletedWritesNoWriteBetweenWrong : ChangeSpec := { name := "fnAdmittingCompletedWritesNoWriteBetween", fn := fun _ => fun
  | [d1, d2, d3, d4, d5] => { results := [.lit (.bool false)], args := [d1, d2, d3, d4, d5] }
  | _ => none }
def FnAdmittingCompletedWritesNoWriteBetweenWrongFalsely : Prop := fnAdmittingCompletedWritesNoWriteBetweenRow.holds Try.pinned (OpenSpec.ofChange fnAdmittingCompletedWritesNoWriteBetweenWrong)

end Rows
end Go.Proofs.Qxb6609392a
