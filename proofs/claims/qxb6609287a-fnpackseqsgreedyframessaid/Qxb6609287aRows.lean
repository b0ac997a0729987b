/-
  No cell of these rows narrows 'for every input' (looked for: loops, veiled, ifaces, maps, wideKeys, modest, calm, conditions, laid).
  DERIVED. THE GIVEN ROWS OF THIS SEAT. 6 by the template 'for every input the law returns true; each argument reads behind the call as it read before'; 0 by the template 'total and deterministic' (their statements: Qxb6609287aTotals.lean).
  GIVEN WITH THE SEED: the statements are not yours to turn. If you find one false, say at which input.
  Laid BY PROGRAM, IN A SANDBOX (cutbox-rows.mjs): the forced cells as the released guide's own fill.sh prints them over the translation 135204970f671c68… (all of the seat's roots in one cut). By AI agents, Wed Nov 11 2026. No macro, syntax, notation, axiom, sorry.
-/
import Derived.Test.Qxb6609287aChecked
import GoSem.Claim
import GoSem.ClaimJoined
import GoSem.ClaimMapViews
import Derived.JoinedTies
import Derived.KernelRfl
namespace Go.Proofs.Qxb6609287a
/- THE CELL 'sum', in the pinned program and in every row, IS THE sha256 OF THE DUMP (.gsa) THAT Qxb6609287aProg.lean LOADS. Nothing in Lean hashes anything: it is a label: what it is worth is what the hold of that sum in a sandbox is worth. -/
noncomputable def Try.pinned : Pinned := { name := "qxb6609287a", sum := "135204970f671c682f3c9b60dbc4b3834f9f511351711c74713a68f947173794", checked := Try.checked }
namespace Rows
def none {H : Type} : Left H := { results := [], args := [] }

/-- 'zzlaws_wire_b1.FnNodeSiblingIndexArithmetic': WHATEVER THE INPUT: true; the input reads as it did. -/
def fnNodeSiblingIndexArithmeticSpec : ChangeSpec := { name := "fnNodeSiblingIndexArithmetic", fn := fun _ => fun
  | [d1, d2, d3] => { results := [.lit (.bool true)], args := [d1, d2, d3] }
  | _ => none }
def fnNodeSiblingIndexArithmeticRow : OpenClaim := { program := "qxb6609287a", sum := "135204970f671c682f3c9b60dbc4b3834f9f511351711c74713a68f947173794", func := "example.com/rumorwire/rumorwire/zzlaws_wire_b1.FnNodeSiblingIndexArithmetic", spec := "fnNodeSiblingIndexArithmetic", apart := false }
def FnNodeSiblingIndexArithmeticSaid : Prop := fnNodeSiblingIndexArithmeticRow.holds Try.pinned (OpenSpec.ofChange fnNodeSiblingIndexArithmeticSpec)

/-- ITS FALSE NEIGHBOUR: 'it returns false'. Refute it at one input. -/
def fnNodeSiblingIndexArithmeticWrong : ChangeSpec := { name := "fnNodeSiblingIndexArithmetic", fn := fun _ => fun
  | [d1, d2, d3] => { results := [.lit (.bool false)], args := [d1, d2, d3] }
  | _ => none }
def FnNodeSiblingIndexArithmeticWrongFalsely : Prop := fnNodeSiblingIndexArithmeticRow.holds Try.pinned (OpenSpec.ofChange fnNodeSiblingIndexArithmeticWrong)

/-- 'zzlaws_wire_b1.FnNodeSiblingWalk': WHATEVER THE INPUT: true; the input reads as it did. -/
def fnNodeSiblingWalkSpec : ChangeSpec := { name := "fnNodeSiblingWalk", fn := fun _ => fun
  | [d1, d2, d3, d4] => { results := [.lit (.bool true)], args := [d1, d2, d3, d4] }
  | _ => none }
def fnNodeSiblingWalkRow : OpenClaim := { program := "qxb6609287a", sum := "135204970f671c682f3c9b60dbc4b3834f9f511351711c74713a68f947173794", func := "example.com/rumorwire/rumorwire/zzlaws_wire_b1.FnNodeSiblingWalk", spec := "fnNodeSiblingWalk", apart := false }
def FnNodeSiblingWalkSaid : Prop := fnNodeSiblingWalkRow.holds Try.pinned (OpenSpec.ofChange fnNodeSiblingWalkSpec)

/-- ITS FALSE NEIGHBOUR: 'it returns false'. Refute it at one input. -/
def fnNodeSiblingWalkWrong : ChangeSpec := { name := "fnNodeSiblingWalk", fn := fun _ => fun
  | [d1, d2, d3, d4] => { results := [.lit (.bool false)], args := [d1, d2, d3, d4] }
  | _ => none }
def FnNodeSiblingWalkWrongFalsely : Prop := fnNodeSiblingWalkRow.holds Try.pinned (OpenSpec.ofChange fnNodeSiblingWalkWrong)

/-- 'zzlaws_wire_b1.FnPackFingerprintsGreedyFrames': WHATEVER THE INPUT: true; the input reads as it did. -/
def fnPackFingerprintsGreedyFramesSpec : ChangeSpec := { name := "fnPackFingerprintsGreedyFrames", fn := fun _ => fun
  | [d] => { results := [.lit (.bool true)], args := [d] }
  | _ => none }
def fnPackFingerprintsGreedyFramesRow : OpenClaim := { program := "qxb6609287a", sum := "135204970f671c682f3c9b60dbc4b3834f9f511351711c74713a68f947173794", func := "example.com/rumorwire/rumorwire/zzlaws_wire_b1.FnPackFingerprintsGreedyFrames", spec := "fnPackFingerprintsGreedyFrames", unfollowed := true, recurses := true, apart := false }
def FnPackFingerprintsGreedyFramesSaid : Prop := fnPackFingerprintsGreedyFramesRow.holds Try.pinned (OpenSpec.ofChange fnPackFingerprintsGreedyFramesSpec)

/-- ITS FALSE NEIGHBOUR: 'it returns false'. Refute it at one input. -/
def fnPackFingerprintsGreedyFramesWrong : ChangeSpec := { name := "fnPackFingerprintsGreedyFrames", fn := fun _ => fun
  | [d] => { results := [.lit (.bool false)], args := [d] }
  | _ => none }
def FnPackFingerprintsGreedyFramesWrongFalsely : Prop := fnPackFingerprintsGreedyFramesRow.holds Try.pinned (OpenSpec.ofChange fnPackFingerprintsGreedyFramesWrong)

/-- 'zzlaws_wire_b1.FnPackFingerprintsPrefixStable': WHATEVER THE INPUT: true; the input reads as it did. -/
def fnPackFingerprintsPrefixStableSpec : ChangeSpec := { name := "fnPackFingerprintsPrefixStable", fn := fun _ => fun
  | [d1, d2] => { results := [.lit (.bool true)], args := [d1, d2] }
  | _ => none }
def fnPackFingerprintsPrefixStableRow : OpenClaim := { program := "qxb6609287a", sum := "135204970f671c682f3c9b60dbc4b3834f9f511351711c74713a68f947173794", func := "example.com/rumorwire/rumorwire/zzlaws_wire_b1.FnPackFingerprintsPrefixStable", spec := "fnPackFingerprintsPrefixStable", unfollowed := true, recurses := true, apart := false }
def FnPackFingerprintsPrefixStableSaid : Prop := fnPackFingerprintsPrefixStableRow.holds Try.pinned (OpenSpec.ofChange fnPackFingerprintsPrefixStableSpec)

/-- ITS FALSE NEIGHBOUR: 'it returns false'. Refute it at one input. -/
def fnPackFingerprintsPrefixStableWrong : ChangeSpec := { name := "fnPackFingerprintsPrefixStable", fn := fun _ => fun
  | [d1, d2] => { results := [.lit (.bool false)], args := [d1, d2] }
  | _ => none }
def FnPackFingerprintsPrefixStableWrongFalsely : Prop := fnPackFingerprintsPrefixStableRow.holds Try.pinned (OpenSpec.ofChange fnPackFingerprintsPrefixStableWrong)

/-- 'zzlaws_wire_b1.FnPackSeqsGreedyFrames': WHATEVER THE INPUT: true; the input reads as it did. -/
def fnPackSeqsGreedyFramesSpec : ChangeSpec := { name := "fnPackSeqsGreedyFrames", fn := fun _ => fun
  | [d] => { results := [.lit (.bool true)], args := [d] }
  | _ => none }
def fnPackSeqsGreedyFramesRow : OpenClaim := { program := "qxb6609287a", sum := "135204970f671c682f3c9b60dbc4b3834f9f511351711c74713a68f947173794", func := "example.com/rumorwire/rumorwire/zzlaws_wire_b1.FnPackSeqsGreedyFrames", spec := "fnPackSeqsGreedyFrames", unfollowed := true, recurses := true, apart := false }
def FnPackSeqsGreedyFramesSaid : Prop := fnPackSeqsGreedyFramesRow.holds Try.pinned (OpenSpec.ofChange fnPackSeqsGreedyFramesSpec)

/-- ITS FALSE NEIGHBOUR: 'it returns false'. Refute it at one input. -/
def fnPackSeqsGreedyFramesWrong : ChangeSpec := { name := "fnPackSeqsGreedyFrames", fn := fun _ => fun
  | [d] => { results := [.lit (.bool false)], args := [d] }
  | _ => none }
def FnPackSeqsGreedyFramesWrongFalsely : Prop := fnPackSeqsGreedyFramesRow.holds Try.pinned (OpenSpec.ofChange fnPackSeqsGreedyFramesWrong)

/-- 'zzlaws_wire_b1.FnPackSeqsPrefixStable': WHATEVER THE INPUT: true; the input reads as it did. -/
def fnPackSeqsPrefixStableSpec : ChangeSpec := { name := "fnPackSeqsPrefixStable", fn := fun _ => fun
  | [d1, d2] => { results := [.lit (.bool true)], args := [d1, d2] }
  | _ => none }
def fnPackSeqsPrefixStableRow : OpenClaim := { program := "qxb6609287a", sum := "135204970f671c682f3c9b60dbc4b3834f9f511351711c74713a68f947173794", func := "example.com/rumorwire/rumorwire/zzlaws_wire_b1.FnPackSeqsPrefixStable", spec := "fnPackSeqsPrefixStable", unfollowed := true, recurses := true, apart := false }
def FnPackSeqsPrefixStableSaid : Prop := fnPackSeqsPrefixStableRow.holds Try.pinned (OpenSpec.ofChange fnPackSeqsPrefixStableSpec)

/-- ITS FALSE NEIGHBOUR: 'it returns false'. Refute it at one input. -/
def fnPackSeqsPrefixStableWrong : ChangeSpec := { name := "fnPackSeqsPrefixStable", fn := fun _ => fun
  | [d1, d2] => { results := [.lit (.bool false)], args := [d1, d2] }
  | _ => none }
def FnPackSeqsPrefixStableWrongFalsely : Prop := fnPackSeqsPrefixStableRow.holds Try.pinned (OpenSpec.ofChange fnPackSeqsPrefixStableWrong)

end Rows
end Go.Proofs.Qxb6609287a
