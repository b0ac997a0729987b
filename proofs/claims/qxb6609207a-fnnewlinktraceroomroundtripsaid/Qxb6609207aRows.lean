/-
  No cell of these rows narrows 'for every input' (looked for: loops, veiled, ifaces, maps, wideKeys, modest, calm, conditions, laid).
  DERIVED. THE GIVEN ROWS OF THIS SEAT. 1 by the template 'for every input the law returns true; each argument reads behind the call as it read before'; 0 by the template 'total and deterministic' (their statements: Qxb6609207aTotals.lean).
  GIVEN WITH THE SEED: the statements are not yours to turn. If you find one false, say at which input.
  Laid BY PROGRAM, IN A SANDBOX (cutbox-rows.mjs): the forced cells as the released guide's own fill.sh prints them over the translation d5518b33b19fd6bb… (all of the seat's roots in one cut). By AI agents, Wed Nov 11 2026. No macro, syntax, notation, axiom, sorry.
-/
import Derived.Test.Qxb6609207aChecked
import GoSem.Claim
import GoSem.ClaimJoined
import GoSem.ClaimMapViews
import Derived.JoinedTies
import Derived.KernelRfl
namespace Go.Proofs.Qxb6609207a
/- THE CELL 'sum', in the pinned program and in every row, IS THE sha256 OF THE DUMP (.gsa) THAT Qxb6609207aProg.lean LOADS. Nothing in Lean hashes anything: it is a label: what it is worth is what the hold of that sum in a sandbox is worth. -/
noncomputable def Try.pinned : Pinned := { name := "qxb6609207a", sum := "d5518b33b19fd6bbb0ad23a6c091f394b1c71855970fb4156a2ac425a8aff378", checked := Try.checked }
namespace Rows
def none {H : Type} : Left H := { results := [], args := [] }

/-- 'zzlaws_pkg_om_b1.FnNewLinkTraceRoomRoundTrip': WHATEVER THE INPUT: true; the input reads as it did. -/
def fnNewLinkTraceRoomRoundTripSpec : ChangeSpec := { name := "fnNewLinkTraceRoomRoundTrip", fn := fun _ => fun
  | [d1, d2] => { results := [.lit (.bool true)], args := [d1, d2] }
  | _ => none }
def fnNewLinkTraceRoomRoundTripRow : OpenClaim := { program := "qxb6609207a", sum := "d5518b33b19fd6bbb0ad23a6c091f394b1c71855970fb4156a2ac425a8aff378", func := "example.com/loyal-council/loyal-council/zzlaws_pkg_om_b1.FnNewLinkTraceRoomRoundTrip", spec := "fnNewLinkTraceRoomRoundTrip", apart := false }
def FnNewLinkTraceRoomRoundTripSaid : Prop := fnNewLinkTraceRoomRoundTripRow.holds Try.pinned (OpenSpec.ofChange fnNewLinkTraceRoomRoundTripSpec)

/-- ITS FALSE NEIGHBOUR: 'it returns false'. Refute it at one input. -/
def fnNewLinkTraceRoomRoundTripWrong : ChangeSpec := { name := "fnNewLinkTraceRoomRoundTrip", fn := fun _ => fun
  | [d1, d2] => { results := [.lit (.bool false)], args := [d1, d2] }
  | _ => none }
def FnNewLinkTraceRoomRoundTripWrongFalsely : Prop := fnNewLinkTraceRoomRoundTripRow.holds Try.pinned (OpenSpec.ofChange fnNewLinkTraceRoomRoundTripWrong)

end Rows
end Go.Proofs.Qxb6609207a
