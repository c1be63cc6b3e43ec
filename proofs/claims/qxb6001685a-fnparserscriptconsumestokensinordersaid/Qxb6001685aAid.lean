import Derived.Test.Qxb6001685aRows
import Derived.WalkKit
import Derived.ProofKit
namespace Go.Proofs.Qxb6001685a
open Go.RowKit

/-- A slice of one-cell elements, read by index: empty, or its cells lie in a row. -/
def Row (w : World) (a : Option Addr) (n : Nat) (V : Nat → Value) : Prop :=
  Hid (n = 0) ∨ ∃ b off, a = some ⟨b, off, none⟩ ∧ b < w.heap.size ∧ ∀ i, i < n → w.cell? ⟨b, off + i, none⟩ = some (V i)

theorem Row.below {w w' : World} {a : Option Addr} {n : Nat} {V : Nat → Value} (h : Row w a n V) (hb : Below w.heap.size w w') : Row w' a n V := by
  rcases h with h | ⟨b, off, ha, hlt, hc⟩
  · exact Or.inl h
  · exact Or.inr ⟨b, off, ha, Nat.lt_of_lt_of_le hlt hb.size, fun i hi => (hb.cell (p := ⟨b, off + i, none⟩) hlt).trans (hc i hi)⟩

def bytes (I : Nat → Int) : Nat → Value := fun i => .int .u8 (I i)
def strs (S : Nat → ByteArray) : Nat → Value := fun i => .string (S i)
/-- It returned one bool. -/
def SomeBool (e : Ending) : Prop := ∃ r : Bool, e = .returned (.bool r)
end Go.Proofs.Qxb6001685a
