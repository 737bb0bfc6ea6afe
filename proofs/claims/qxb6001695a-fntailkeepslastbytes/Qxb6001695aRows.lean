/-
  No cell of these rows narrows 'for every input' (looked for: loops, veiled, ifaces, maps, wideKeys, modest, calm, conditions, laid).
  DERIVED. THE GIVEN ROWS OF THIS SEAT. 2 by the template 'for every input the law returns true; each argument reads behind the call as it read before'; 0 by the template 'total and deterministic' (their statements: Qxb6001695aTotals.lean).
  GIVEN WITH THE SEED: the statements are not yours to turn. If you find one false, say at which input.
  Laid BY PROGRAM, IN A SANDBOX (cutbox-rows.mjs): the forced cells as the released guide's own fill.sh prints them over the translation 452bdb9d8691935e… (all of the seat's roots in one cut). By AI agents, Wed Nov 11 2026. No macro, syntax, notation, axiom, sorry.
-/
import Derived.Test.Qxb6001695aChecked
import GoSem.Claim
import GoSem.ClaimJoined
import GoSem.ClaimMapViews
import Derived.JoinedTies
import Derived.KernelRfl
namespace Go.Proofs.Qxb6001695a
/- THE CELL 'sum', in the pinned program and in every row, IS THE sha256 OF THE DUMP (.gsa) THAT Qxb6001695aProg.lean LOADS. Nothing in Lean hashes anything: it is a label: what it is worth is what the hold of that sum in a sandbox is worth. -/
noncomputable def Try.pinned : Pinned := { name := "qxb6001695a", sum := "452bdb9d8691935ed5b98cda29f7ab4bd8f27d3932c3138340a747639964ea22", checked := Try.checked }
namespace Rows
def none {H : Type} : Left H := { results := [], args := [] }

/-- 'zzlaws_internal_check_e1.FnTailKeepsLastBytes': WHATEVER THE INPUT: true; the input reads as it did. -/
def fnTailKeepsLastBytesSpec : ChangeSpec := { name := "fnTailKeepsLastBytes", fn := fun _ => fun
  | [d] => { results := [.lit (.bool true)], args := [d] }
  | _ => none }
def fnTailKeepsLastBytesRow : OpenClaim := { program := "qxb6001695a", sum := "452bdb9d8691935ed5b98cda29f7ab4bd8f27d3932c3138340a747639964ea22", func := "example.com/tsktsk/tsktsk/zzlaws_internal_check_e1.FnTailKeepsLastBytes", spec := "fnTailKeepsLastBytes", apart := false }
def FnTailKeepsLastBytesSaid : Prop := fnTailKeepsLastBytesRow.holds Try.pinned (OpenSpec.ofChange fnTailKeepsLastBytesSpec)

/-- ITS FALSE NEIGHBOUR: 'it returns false'. Refute it at one input. -/
def fnTailKeepsLastBytesWrong : ChangeSpec := { name := "fnTailKeepsLastBytes", fn := fun _ => fun
  | [d] => { results := [.lit (.bool false)], args := [d] }
  | _ => none }
def FnTailKeepsLastBytesWrongFalsely : Prop := fnTailKeepsLastBytesRow.holds Try.pinned (OpenSpec.ofChange fnTailKeepsLastBytesWrong)

/-- 'zzlaws_internal_check_e1.FnTailSplitInvariant': WHATEVER THE INPUT: true; the input reads as it did. -/
def fnTailSplitInvariantSpec : ChangeSpec := { name := "fnTailSplitInvariant", fn := fun _ => fun
  | [d] => { results := [.lit (.bool true)], args := [d] }
  | _ => none }
def fnTailSplitInvariantRow : OpenClaim := { program := "qxb6001695a", sum := "452bdb9d8691935ed5b98cda29f7ab4bd8f27d3932c3138340a747639964ea22", func := "example.com/tsktsk/tsktsk/zzlaws_internal_check_e1.FnTailSplitInvariant", spec := "fnTailSplitInvariant", apart := false }
def FnTailSplitInvariantSaid : Prop := fnTailSplitInvariantRow.holds Try.pinned (OpenSpec.ofChange fnTailSplitInvariantSpec)

/-- ITS FALSE NEIGHBOUR: 'it returns false'. Refute it at one input. -/
def fnTailSplitInvariantWrong : ChangeSpec := { name := "fnTailSplitInvariant", fn := fun _ => fun
  | [d] => { results := [.lit (.bool false)], args := [d] }
  | _ => none }
def FnTailSplitInvariantWrongFalsely : Prop := fnTailSplitInvariantRow.holds Try.pinned (OpenSpec.ofChange fnTailSplitInvariantWrong)

end Rows
end Go.Proofs.Qxb6001695a
