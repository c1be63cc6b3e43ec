/-
  DERIVED. GIVEN WITH THE SEED: THE CARDS: each row of Qxb6001685aDoorRows.lean that lists a variable, with what it lists TIED to the program's text (the seventh form; the later family's looks); each row that meets fmt, with fmt's text TOLD by the authors' own Lean function (tested against real Go, not proved from fmt's source: count such statements apart). THE CARD IS WHAT COUNTS. Prove the row's statement (the work); the ties are given (Qxb6001685aDoorTie.lean); close each card by the builder's one call (the guide's Derived/Test/ToyasCard.lean, 'card_holds'). Laid BY PROGRAM, IN A SANDBOX (cutbox-door.mjs). By AI agents, Wed Nov 11 2026. No macro, syntax, notation, axiom, sorry.
-/
import Derived.Test.Qxb6001685aDoorRows
import GoSem.ClaimSeven
namespace Go.Proofs.Qxb6001685aDoor
namespace Rows

/-- THE TIED CARD OF 'zzlaws_sqlparse_g1.FnIntegerValuesWriteTheirDecimal'. -/
def fnIntegerValuesWriteTheirDecimalCard : Claim7 := { stood := { row := fnIntegerValuesWriteTheirDecimalRow, standIns := [], harness := (true, "7f3924534f00afe6e9665c113d0e3a620431f1be08112d43639f494eea90f93b"), looks := false }, kinds := [], alts := [], laidByText := true, laidKinds := [.data, .data, .data], laidTests := true, laidLooks := .later }
def FnIntegerValuesWriteTheirDecimalCardSaid : Prop := Claim7.holds Tryd.pinned (.plain (OpenSpec.ofChange fnIntegerValuesWriteTheirDecimalSpec)) fnIntegerValuesWriteTheirDecimalCard
end Rows
end Go.Proofs.Qxb6001685aDoor
