/-
  No cell of these rows narrows 'for every input' (looked for: loops, veiled, ifaces, maps, wideKeys, modest, calm, conditions, laid).
  DERIVED. THE GIVEN ROWS OF THIS SEAT. 5 by the template 'for every input the law returns true; each argument reads behind the call as it read before'; 0 by the template 'total and deterministic' (their statements: Qxb6001038aTotals.lean).
  GIVEN WITH THE SEED: the statements are not yours to turn. If you find one false, say at which input.
  Laid BY PROGRAM, IN A SANDBOX (cutbox-rows.mjs): the forced cells as the released guide's own fill.sh prints them over the translation f083539ced392cc2… (all of the seat's roots in one cut). By AI agents, Wed Nov 11 2026. No macro, syntax, notation, axiom, sorry.
-/
import Derived.Test.Qxb6001038aChecked
import GoSem.Claim
import GoSem.ClaimJoined
import GoSem.ClaimMapViews
import Derived.JoinedTies
import Derived.KernelRfl
namespace Go.Proofs.Qxb6001038a
/- THE CELL 'sum', in the pinned program and in every row, IS THE sha256 OF THE DUMP (.gsa) THAT Qxb6001038aProg.lean LOADS. Nothing in Lean hashes anything: it is a label: what it is worth is what the hold of that sum in a sandbox is worth. -/
noncomputable def Try.pinned : Pinned := { name := "qxb6001038a", sum := "f083539ced392cc2072539d860ff69c9beea985ed3fbc85f4f64f24d2cfe38a0", checked := Try.checked }
namespace Rows
def none {H : Type} : Left H := { results := [], args := [] }

/-- 'zzlaws_pkg_kv_b1.FnSplitKeepsOrderAndShape': WHATEVER THE INPUT: true; the input reads as it did. -/
def fnSplitKeepsOrderAndShapeSpec : ChangeSpec := { name := "fnSplitKeepsOrderAndShape", fn := fun _ => fun
  | [d1, d2, d3, d4] => { results := [.lit (.bool true)], args := [d1, d2, d3, d4] }
  | _ => none }
def fnSplitKeepsOrderAndShapeRow : OpenClaim := { program := "qxb6001038a", sum := "f083539ced392cc2072539d860ff69c9beea985ed3fbc85f4f64f24d2cfe38a0", func := "example.com/tenure/tenure/zzlaws_pkg_kv_b1.FnSplitKeepsOrderAndShape", spec := "fnSplitKeepsOrderAndShape", inPlace := ["slices.overlaps[example.com/tenure/tenure/pkg/kv.entry]", "slices.overlaps[*example.com/tenure/tenure/pkg/kv.node]"], recurses := true, apart := false }
def FnSplitKeepsOrderAndShapeSaid : Prop := fnSplitKeepsOrderAndShapeRow.holds Try.pinned (OpenSpec.ofChange fnSplitKeepsOrderAndShapeSpec)

/-- ITS FALSE NEIGHBOUR: 'it returns false'. Refute it at one input. -/
def fnSplitKeepsOrderAndShapeWrong : ChangeSpec := { name := "fnSplitKeepsOrderAndShape", fn := fun _ => fun
  | [d1, d2, d3, d4] => { results := [.lit (.bool false)], args := [d1, d2, d3, d4] }
  | _ => none }
def FnSplitKeepsOrderAndShapeWrongFalsely : Prop := fnSplitKeepsOrderAndShapeRow.holds Try.pinned (OpenSpec.ofChange fnSplitKeepsOrderAndShapeWrong)

/-- 'zzlaws_pkg_kv_b1.FnGrowKeepsOrderAndGivesRoom': WHATEVER THE INPUT: true; the input reads as it did. -/
def fnGrowKeepsOrderAndGivesRoomSpec : ChangeSpec := { name := "fnGrowKeepsOrderAndGivesRoom", fn := fun _ => fun
  | [d1, d2, d3, d4] => { results := [.lit (.bool true)], args := [d1, d2, d3, d4] }
  | _ => none }
def fnGrowKeepsOrderAndGivesRoomRow : OpenClaim := { program := "qxb6001038a", sum := "f083539ced392cc2072539d860ff69c9beea985ed3fbc85f4f64f24d2cfe38a0", func := "example.com/tenure/tenure/zzlaws_pkg_kv_b1.FnGrowKeepsOrderAndGivesRoom", spec := "fnGrowKeepsOrderAndGivesRoom", inPlace := ["slices.overlaps[example.com/tenure/tenure/pkg/kv.entry]", "slices.overlaps[*example.com/tenure/tenure/pkg/kv.node]"], recurses := true, apart := false }
def FnGrowKeepsOrderAndGivesRoomSaid : Prop := fnGrowKeepsOrderAndGivesRoomRow.holds Try.pinned (OpenSpec.ofChange fnGrowKeepsOrderAndGivesRoomSpec)

/-- ITS FALSE NEIGHBOUR: 'it returns false'. Refute it at one input. -/
def fnGrowKeepsOrderAndGivesRoomWrong : ChangeSpec := { name := "fnGrowKeepsOrderAndGivesRoom", fn := fun _ => fun
  | [d1, d2, d3, d4] => { results := [.lit (.bool false)], args := [d1, d2, d3, d4] }
  | _ => none }
def FnGrowKeepsOrderAndGivesRoomWrongFalsely : Prop := fnGrowKeepsOrderAndGivesRoomRow.holds Try.pinned (OpenSpec.ofChange fnGrowKeepsOrderAndGivesRoomWrong)

/-- 'zzlaws_pkg_kv_b1.FnGrowLeavesSnapshotUntouched': WHATEVER THE INPUT: true; the input reads as it did. -/
def fnGrowLeavesSnapshotUntouchedSpec : ChangeSpec := { name := "fnGrowLeavesSnapshotUntouched", fn := fun _ => fun
  | [d1, d2, d3, d4] => { results := [.lit (.bool true)], args := [d1, d2, d3, d4] }
  | _ => none }
def fnGrowLeavesSnapshotUntouchedRow : OpenClaim := { program := "qxb6001038a", sum := "f083539ced392cc2072539d860ff69c9beea985ed3fbc85f4f64f24d2cfe38a0", func := "example.com/tenure/tenure/zzlaws_pkg_kv_b1.FnGrowLeavesSnapshotUntouched", spec := "fnGrowLeavesSnapshotUntouched", inPlace := ["slices.overlaps[example.com/tenure/tenure/pkg/kv.entry]", "slices.overlaps[*example.com/tenure/tenure/pkg/kv.node]"], recurses := true, apart := false }
def FnGrowLeavesSnapshotUntouchedSaid : Prop := fnGrowLeavesSnapshotUntouchedRow.holds Try.pinned (OpenSpec.ofChange fnGrowLeavesSnapshotUntouchedSpec)

/-- ITS FALSE NEIGHBOUR: 'it returns false'. Refute it at one input. -/
def fnGrowLeavesSnapshotUntouchedWrong : ChangeSpec := { name := "fnGrowLeavesSnapshotUntouched", fn := fun _ => fun
  | [d1, d2, d3, d4] => { results := [.lit (.bool false)], args := [d1, d2, d3, d4] }
  | _ => none }
def FnGrowLeavesSnapshotUntouchedWrongFalsely : Prop := fnGrowLeavesSnapshotUntouchedRow.holds Try.pinned (OpenSpec.ofChange fnGrowLeavesSnapshotUntouchedWrong)

/-- 'zzlaws_pkg_kv_b1.FnRemoveEdgeTakesTheEnds': WHATEVER THE INPUT: true; the input reads as it did. -/
def fnRemoveEdgeTakesTheEndsSpec : ChangeSpec := { name := "fnRemoveEdgeTakesTheEnds", fn := fun _ => fun
  | [d1, d2, d3, d4] => { results := [.lit (.bool true)], args := [d1, d2, d3, d4] }
  | _ => none }
def fnRemoveEdgeTakesTheEndsRow : OpenClaim := { program := "qxb6001038a", sum := "f083539ced392cc2072539d860ff69c9beea985ed3fbc85f4f64f24d2cfe38a0", func := "example.com/tenure/tenure/zzlaws_pkg_kv_b1.FnRemoveEdgeTakesTheEnds", spec := "fnRemoveEdgeTakesTheEnds", inPlace := ["slices.overlaps[example.com/tenure/tenure/pkg/kv.entry]", "slices.overlaps[*example.com/tenure/tenure/pkg/kv.node]"], recurses := true, apart := false }
def FnRemoveEdgeTakesTheEndsSaid : Prop := fnRemoveEdgeTakesTheEndsRow.holds Try.pinned (OpenSpec.ofChange fnRemoveEdgeTakesTheEndsSpec)

/-- ITS FALSE NEIGHBOUR: 'it returns false'. Refute it at one input. -/
def fnRemoveEdgeTakesTheEndsWrong : ChangeSpec := { name := "fnRemoveEdgeTakesTheEnds", fn := fun _ => fun
  | [d1, d2, d3, d4] => { results := [.lit (.bool false)], args := [d1, d2, d3, d4] }
  | _ => none }
def FnRemoveEdgeTakesTheEndsWrongFalsely : Prop := fnRemoveEdgeTakesTheEndsRow.holds Try.pinned (OpenSpec.ofChange fnRemoveEdgeTakesTheEndsWrong)

/-- 'zzlaws_pkg_kv_b1.FnRemoveEdgeLeavesSnapshotUntouched': WHATEVER THE INPUT: true; the input reads as it did. -/
def fnRemoveEdgeLeavesSnapshotUntouchedSpec : ChangeSpec := { name := "fnRemoveEdgeLeavesSnapshotUntouched", fn := fun _ => fun
  | [d1, d2, d3, d4] => { results := [.lit (.bool true)], args := [d1, d2, d3, d4] }
  | _ => none }
def fnRemoveEdgeLeavesSnapshotUntouchedRow : OpenClaim := { program := "qxb6001038a", sum := "f083539ced392cc2072539d860ff69c9beea985ed3fbc85f4f64f24d2cfe38a0", func := "example.com/tenure/tenure/zzlaws_pkg_kv_b1.FnRemoveEdgeLeavesSnapshotUntouched", spec := "fnRemoveEdgeLeavesSnapshotUntouched", inPlace := ["slices.overlaps[example.com/tenure/tenure/pkg/kv.entry]", "slices.overlaps[*example.com/tenure/tenure/pkg/kv.node]"], recurses := true, apart := false }
def FnRemoveEdgeLeavesSnapshotUntouchedSaid : Prop := fnRemoveEdgeLeavesSnapshotUntouchedRow.holds Try.pinned (OpenSpec.ofChange fnRemoveEdgeLeavesSnapshotUntouchedSpec)

/-- ITS FALSE NEIGHBOUR: 'it returns false'. Refute it at one input. -/
def fnRemoveEdgeLeavesSnapshotUntouchedWrong : ChangeSpec := { name := "fnRemoveEdgeLeavesSnapshotUntouched", fn := fun _ => fun
  | [d1, d2, d3, d4] => { results := [.lit (.bool false)], args := [d1, d2, d3, d4] }
  | _ => none }
def FnRemoveEdgeLeavesSnapshotUntouchedWrongFalsely : Prop := fnRemoveEdgeLeavesSnapshotUntouchedRow.holds Try.pinned (OpenSpec.ofChange fnRemoveEdgeLeavesSnapshotUntouchedWrong)

end Rows
end Go.Proofs.Qxb6001038a
