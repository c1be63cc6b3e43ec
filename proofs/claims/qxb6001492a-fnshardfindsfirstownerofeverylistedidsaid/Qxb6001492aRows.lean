/-
  No cell of these rows narrows 'for every input' (looked for: loops, veiled, ifaces, maps, wideKeys, modest, calm, conditions, laid).
  DERIVED. THE GIVEN ROWS OF THIS SEAT. 3 by the template 'for every input the law returns true; each argument reads behind the call as it read before'; 0 by the template 'total and deterministic' (their statements: Qxb6001492aTotals.lean).
  GIVEN WITH THE SEED: the statements are not yours to turn. If you find one false, say at which input.
  Laid BY PROGRAM, IN A SANDBOX (cutbox-rows.mjs): the forced cells as the released guide's own fill.sh prints them over the translation 82fdc6b83c6ca5ae… (all of the seat's roots in one cut). By AI agents, Wed Nov 11 2026. No macro, syntax, notation, axiom, sorry.
-/
import Derived.Test.Qxb6001492aChecked
import GoSem.Claim
import GoSem.ClaimJoined
import GoSem.ClaimMapViews
import Derived.JoinedTies
import Derived.KernelRfl
namespace Go.Proofs.Qxb6001492a
/- THE CELL 'sum', in the pinned program and in every row, IS THE sha256 OF THE DUMP (.gsa) THAT Qxb6001492aProg.lean LOADS. Nothing in Lean hashes anything: it is a label: what it is worth is what the hold of that sum in a sandbox is worth. -/
noncomputable def Try.pinned : Pinned := { name := "qxb6001492a", sum := "82fdc6b83c6ca5aed97f4072efebd30cf4cd4c76ac5dc63eaa89887061a9e573", checked := Try.checked }
namespace Rows
def none {H : Type} : Left H := { results := [], args := [] }

/-- 'zzlaws_cluster_b1.FnShardFindsFirstOwnerOfEveryListedID': WHATEVER THE INPUT: true; the input reads as it did. -/
def fnShardFindsFirstOwnerOfEveryListedIDSpec : ChangeSpec := { name := "fnShardFindsFirstOwnerOfEveryListedID", fn := fun _ => fun
  | [d1, d2, d3, d4] => { results := [.lit (.bool true)], args := [d1, d2, d3, d4] }
  | _ => none }
def fnShardFindsFirstOwnerOfEveryListedIDRow : OpenClaim := { program := "qxb6001492a", sum := "82fdc6b83c6ca5aed97f4072efebd30cf4cd4c76ac5dc63eaa89887061a9e573", func := "example.com/tidemark/tidemark/zzlaws_cluster_b1.FnShardFindsFirstOwnerOfEveryListedID", spec := "fnShardFindsFirstOwnerOfEveryListedID", apart := false }
def FnShardFindsFirstOwnerOfEveryListedIDSaid : Prop := fnShardFindsFirstOwnerOfEveryListedIDRow.holds Try.pinned (OpenSpec.ofChange fnShardFindsFirstOwnerOfEveryListedIDSpec)

/-- ITS FALSE NEIGHBOUR: 'it returns false'. Refute it at one input. -/
def fnShardFindsFirstOwnerOfEveryListedIDWrong : ChangeSpec := { name := "fnShardFindsFirstOwnerOfEveryListedID", fn := fun _ => fun
  | [d1, d2, d3, d4] => { results := [.lit (.bool false)], args := [d1, d2, d3, d4] }
  | _ => none }
def FnShardFindsFirstOwnerOfEveryListedIDWrongFalsely : Prop := fnShardFindsFirstOwnerOfEveryListedIDRow.holds Try.pinned (OpenSpec.ofChange fnShardFindsFirstOwnerOfEveryListedIDWrong)

/-- 'zzlaws_cluster_b1.FnShardRefusesAbsentID': WHATEVER THE INPUT: true; the input reads as it did. -/
def fnShardRefusesAbsentIDSpec : ChangeSpec := { name := "fnShardRefusesAbsentID", fn := fun _ => fun
  | [d1, d2, d3, d4, d5] => { results := [.lit (.bool true)], args := [d1, d2, d3, d4, d5] }
  | _ => none }
def fnShardRefusesAbsentIDRow : OpenClaim := { program := "qxb6001492a", sum := "82fdc6b83c6ca5aed97f4072efebd30cf4cd4c76ac5dc63eaa89887061a9e573", func := "example.com/tidemark/tidemark/zzlaws_cluster_b1.FnShardRefusesAbsentID", spec := "fnShardRefusesAbsentID", apart := false }
def FnShardRefusesAbsentIDSaid : Prop := fnShardRefusesAbsentIDRow.holds Try.pinned (OpenSpec.ofChange fnShardRefusesAbsentIDSpec)

/-- ITS FALSE NEIGHBOUR: 'it returns false'. Refute it at one input. -/
def fnShardRefusesAbsentIDWrong : ChangeSpec := { name := "fnShardRefusesAbsentID", fn := fun _ => fun
  | [d1, d2, d3, d4, d5] => { results := [.lit (.bool false)], args := [d1, d2, d3, d4, d5] }
  | _ => none }
def FnShardRefusesAbsentIDWrongFalsely : Prop := fnShardRefusesAbsentIDRow.holds Try.pinned (OpenSpec.ofChange fnShardRefusesAbsentIDWrong)

/-- 'zzlaws_cluster_b1.FnShardAnswerStableUnderAppending': WHATEVER THE INPUT: true; the input reads as it did. -/
def fnShardAnswerStableUnderAppendingSpec : ChangeSpec := { name := "fnShardAnswerStableUnderAppending", fn := fun _ => fun
  | [d1, d2, d3, d4, d5, d6] => { results := [.lit (.bool true)], args := [d1, d2, d3, d4, d5, d6] }
  | _ => none }
def fnShardAnswerStableUnderAppendingRow : OpenClaim := { program := "qxb6001492a", sum := "82fdc6b83c6ca5aed97f4072efebd30cf4cd4c76ac5dc63eaa89887061a9e573", func := "example.com/tidemark/tidemark/zzlaws_cluster_b1.FnShardAnswerStableUnderAppending", spec := "fnShardAnswerStableUnderAppending", apart := false }
def FnShardAnswerStableUnderAppendingSaid : Prop := fnShardAnswerStableUnderAppendingRow.holds Try.pinned (OpenSpec.ofChange fnShardAnswerStableUnderAppendingSpec)

/-- ITS FALSE NEIGHBOUR: 'it returns false'. Refute it at one input. -/
def fnShardAnswerStableUnderAppendingWrong : ChangeSpec := { name := "fnShardAnswerStableUnderAppending", fn := fun _ => fun
  | [d1, d2, d3, d4, d5, d6] => { results := [.lit (.bool false)], args := [d1, d2, d3, d4, d5, d6] }
  | _ => none }
def FnShardAnswerStableUnderAppendingWrongFalsely : Prop := fnShardAnswerStableUnderAppendingRow.holds Try.pinned (OpenSpec.ofChange fnShardAnswerStableUnderAppendingWrong)

end Rows
end Go.Proofs.Qxb6001492a
