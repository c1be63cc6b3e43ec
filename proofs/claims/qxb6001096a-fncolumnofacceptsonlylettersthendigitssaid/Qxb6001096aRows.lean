/-
  No cell of these rows narrows 'for every input' (looked for: loops, veiled, ifaces, maps, wideKeys, modest, calm, conditions, laid).
  DERIVED. THE GIVEN ROWS OF THIS SEAT. 2 by the template 'for every input the law returns true; each argument reads behind the call as it read before'; 0 by the template 'total and deterministic' (their statements: Qxb6001096aTotals.lean).
  GIVEN WITH THE SEED: the statements are not yours to turn. If you find one false, say at which input.
  Laid BY PROGRAM, IN A SANDBOX (cutbox-rows.mjs): the forced cells as the released guide's own fill.sh prints them over the translation 87baded336968285… (all of the seat's roots in one cut). By AI agents, Wed Nov 11 2026. No macro, syntax, notation, axiom, sorry.
-/
import Derived.Test.Qxb6001096aChecked
import GoSem.Claim
import GoSem.ClaimJoined
import GoSem.ClaimMapViews
import Derived.JoinedTies
import Derived.KernelRfl
namespace Go.Proofs.Qxb6001096a
/- THE CELL 'sum', in the pinned program and in every row, IS THE sha256 OF THE DUMP (.gsa) THAT Qxb6001096aProg.lean LOADS. Nothing in Lean hashes anything: it is a label: what it is worth is what the hold of that sum in a sandbox is worth. -/
noncomputable def Try.pinned : Pinned := { name := "qxb6001096a", sum := "87baded33696828584e62ead0ec117f36f0711d48225d871b4f74abdb71e4b0a", checked := Try.checked }
namespace Rows
def none {H : Type} : Left H := { results := [], args := [] }

/-- 'zzlaws_table_b1.FnColumnOfInvertsColumnName': WHATEVER THE INPUT: true; the input reads as it did. -/
def fnColumnOfInvertsColumnNameSpec : ChangeSpec := { name := "fnColumnOfInvertsColumnName", fn := fun _ => fun
  | [d1, d2] => { results := [.lit (.bool true)], args := [d1, d2] }
  | _ => none }
def fnColumnOfInvertsColumnNameRow : OpenClaim := { program := "qxb6001096a", sum := "87baded33696828584e62ead0ec117f36f0711d48225d871b4f74abdb71e4b0a", func := "example.com/kinbook/kinbook/zzlaws_table_b1.FnColumnOfInvertsColumnName", spec := "fnColumnOfInvertsColumnName", apart := false }
def FnColumnOfInvertsColumnNameSaid : Prop := fnColumnOfInvertsColumnNameRow.holds Try.pinned (OpenSpec.ofChange fnColumnOfInvertsColumnNameSpec)

/-- ITS FALSE NEIGHBOUR: 'it returns false'. Refute it at one input. -/
def fnColumnOfInvertsColumnNameWrong : ChangeSpec := { name := "fnColumnOfInvertsColumnName", fn := fun _ => fun
  | [d1, d2] => { results := [.lit (.bool false)], args := [d1, d2] }
  | _ => none }
def FnColumnOfInvertsColumnNameWrongFalsely : Prop := fnColumnOfInvertsColumnNameRow.holds Try.pinned (OpenSpec.ofChange fnColumnOfInvertsColumnNameWrong)

/-- 'zzlaws_table_b1.FnColumnOfAcceptsOnlyLettersThenDigits': WHATEVER THE INPUT: true; the input reads as it did. -/
def fnColumnOfAcceptsOnlyLettersThenDigitsSpec : ChangeSpec := { name := "fnColumnOfAcceptsOnlyLettersThenDigits", fn := fun _ => fun
  | [d] => { results := [.lit (.bool true)], args := [d] }
  | _ => none }
def fnColumnOfAcceptsOnlyLettersThenDigitsRow : OpenClaim := { program := "qxb6001096a", sum := "87baded33696828584e62ead0ec117f36f0711d48225d871b4f74abdb71e4b0a", func := "example.com/kinbook/kinbook/zzlaws_table_b1.FnColumnOfAcceptsOnlyLettersThenDigits", spec := "fnColumnOfAcceptsOnlyLettersThenDigits", apart := false }
def FnColumnOfAcceptsOnlyLettersThenDigitsSaid : Prop := fnColumnOfAcceptsOnlyLettersThenDigitsRow.holds Try.pinned (OpenSpec.ofChange fnColumnOfAcceptsOnlyLettersThenDigitsSpec)

/-- ITS FALSE NEIGHBOUR: 'it returns false'. Refute it at one input. -/
def fnColumnOfAcceptsOnlyLettersThenDigitsWrong : ChangeSpec := { name := "fnColumnOfAcceptsOnlyLettersThenDigits", fn := fun _ => fun
  | [d] => { results := [.lit (.bool false)], args := [d] }
  | _ => none }
def FnColumnOfAcceptsOnlyLettersThenDigitsWrongFalsely : Prop := fnColumnOfAcceptsOnlyLettersThenDigitsRow.holds Try.pinned (OpenSpec.ofChange fnColumnOfAcceptsOnlyLettersThenDigitsWrong)

end Rows
end Go.Proofs.Qxb6001096a
