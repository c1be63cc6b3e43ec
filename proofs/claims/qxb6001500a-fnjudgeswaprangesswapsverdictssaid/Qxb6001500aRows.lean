/-
  No cell of these rows narrows 'for every input' (looked for: loops, veiled, ifaces, maps, wideKeys, modest, calm, conditions, laid).
  DERIVED. THE GIVEN ROWS OF THIS SEAT. 3 by the template 'for every input the law returns true; each argument reads behind the call as it read before'; 0 by the template 'total and deterministic' (their statements: Qxb6001500aTotals.lean).
  GIVEN WITH THE SEED: the statements are not yours to turn. If you find one false, say at which input.
  Laid BY PROGRAM, IN A SANDBOX (cutbox-rows.mjs): the forced cells as the released guide's own fill.sh prints them over the translation 07f348d9d55092c7… (all of the seat's roots in one cut). By AI agents, Wed Nov 11 2026. No macro, syntax, notation, axiom, sorry.
-/
import Derived.Test.Qxb6001500aChecked
import GoSem.Claim
import GoSem.ClaimJoined
import GoSem.ClaimMapViews
import Derived.JoinedTies
import Derived.KernelRfl
namespace Go.Proofs.Qxb6001500a
/- THE CELL 'sum', in the pinned program and in every row, IS THE sha256 OF THE DUMP (.gsa) THAT Qxb6001500aProg.lean LOADS. Nothing in Lean hashes anything: it is a label: what it is worth is what the hold of that sum in a sandbox is worth. -/
noncomputable def Try.pinned : Pinned := { name := "qxb6001500a", sum := "07f348d9d55092c7cff04799455dcbbc1bc6937ee17fa7d9ac927c6fe8176072", checked := Try.checked }
namespace Rows
def none {H : Type} : Left H := { results := [], args := [] }

/-- 'zzlaws_internal_job_b1.FnJudgeAbortExactlyOutsideBothRanges': WHATEVER THE INPUT: true; the input reads as it did. -/
def fnJudgeAbortExactlyOutsideBothRangesSpec : ChangeSpec := { name := "fnJudgeAbortExactlyOutsideBothRanges", fn := fun _ => fun
  | [d1, d2, d3, d4, d5] => { results := [.lit (.bool true)], args := [d1, d2, d3, d4, d5] }
  | _ => none }
def fnJudgeAbortExactlyOutsideBothRangesRow : OpenClaim := { program := "qxb6001500a", sum := "07f348d9d55092c7cff04799455dcbbc1bc6937ee17fa7d9ac927c6fe8176072", func := "example.com/spoolwright/spoolwright/zzlaws_internal_job_b1.FnJudgeAbortExactlyOutsideBothRanges", spec := "fnJudgeAbortExactlyOutsideBothRanges", apart := false }
def FnJudgeAbortExactlyOutsideBothRangesSaid : Prop := fnJudgeAbortExactlyOutsideBothRangesRow.holds Try.pinned (OpenSpec.ofChange fnJudgeAbortExactlyOutsideBothRangesSpec)

/-- ITS FALSE NEIGHBOUR: 'it returns false'. Refute it at one input. -/
def fnJudgeAbortExactlyOutsideBothRangesWrong : ChangeSpec := { name := "fnJudgeAbortExactlyOutsideBothRanges", fn := fun _ => fun
  | [d1, d2, d3, d4, d5] => { results := [.lit (.bool false)], args := [d1, d2, d3, d4, d5] }
  | _ => none }
def FnJudgeAbortExactlyOutsideBothRangesWrongFalsely : Prop := fnJudgeAbortExactlyOutsideBothRangesRow.holds Try.pinned (OpenSpec.ofChange fnJudgeAbortExactlyOutsideBothRangesWrong)

/-- 'zzlaws_internal_job_b1.FnJudgeShiftInvariant': WHATEVER THE INPUT: true; the input reads as it did. -/
def fnJudgeShiftInvariantSpec : ChangeSpec := { name := "fnJudgeShiftInvariant", fn := fun _ => fun
  | [d1, d2, d3, d4, d5, d6] => { results := [.lit (.bool true)], args := [d1, d2, d3, d4, d5, d6] }
  | _ => none }
def fnJudgeShiftInvariantRow : OpenClaim := { program := "qxb6001500a", sum := "07f348d9d55092c7cff04799455dcbbc1bc6937ee17fa7d9ac927c6fe8176072", func := "example.com/spoolwright/spoolwright/zzlaws_internal_job_b1.FnJudgeShiftInvariant", spec := "fnJudgeShiftInvariant", apart := false }
def FnJudgeShiftInvariantSaid : Prop := fnJudgeShiftInvariantRow.holds Try.pinned (OpenSpec.ofChange fnJudgeShiftInvariantSpec)

/-- ITS FALSE NEIGHBOUR: 'it returns false'. Refute it at one input. -/
def fnJudgeShiftInvariantWrong : ChangeSpec := { name := "fnJudgeShiftInvariant", fn := fun _ => fun
  | [d1, d2, d3, d4, d5, d6] => { results := [.lit (.bool false)], args := [d1, d2, d3, d4, d5, d6] }
  | _ => none }
def FnJudgeShiftInvariantWrongFalsely : Prop := fnJudgeShiftInvariantRow.holds Try.pinned (OpenSpec.ofChange fnJudgeShiftInvariantWrong)

/-- 'zzlaws_internal_job_b1.FnJudgeSwapRangesSwapsVerdicts': WHATEVER THE INPUT: true; the input reads as it did. -/
def fnJudgeSwapRangesSwapsVerdictsSpec : ChangeSpec := { name := "fnJudgeSwapRangesSwapsVerdicts", fn := fun _ => fun
  | [d1, d2, d3, d4, d5] => { results := [.lit (.bool true)], args := [d1, d2, d3, d4, d5] }
  | _ => none }
def fnJudgeSwapRangesSwapsVerdictsRow : OpenClaim := { program := "qxb6001500a", sum := "07f348d9d55092c7cff04799455dcbbc1bc6937ee17fa7d9ac927c6fe8176072", func := "example.com/spoolwright/spoolwright/zzlaws_internal_job_b1.FnJudgeSwapRangesSwapsVerdicts", spec := "fnJudgeSwapRangesSwapsVerdicts", apart := false }
def FnJudgeSwapRangesSwapsVerdictsSaid : Prop := fnJudgeSwapRangesSwapsVerdictsRow.holds Try.pinned (OpenSpec.ofChange fnJudgeSwapRangesSwapsVerdictsSpec)

/-- ITS FALSE NEIGHBOUR: 'it returns false'. Refute it at one input. -/
def fnJudgeSwapRangesSwapsVerdictsWrong : ChangeSpec := { name := "fnJudgeSwapRangesSwapsVerdicts", fn := fun _ => fun
  | [d1, d2, d3, d4, d5] => { results := [.lit (.bool false)], args := [d1, d2, d3, d4, d5] }
  | _ => none }
def FnJudgeSwapRangesSwapsVerdictsWrongFalsely : Prop := fnJudgeSwapRangesSwapsVerdictsRow.holds Try.pinned (OpenSpec.ofChange fnJudgeSwapRangesSwapsVerdictsWrong)

end Rows
end Go.Proofs.Qxb6001500a
