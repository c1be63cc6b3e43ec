import Derived.Test.Qxb6001096aRows
import Derived.Test.Qxb6001096aPlain
import Derived.WalkKit
import Derived.ProofKit
import Derived.Laws.BytesArg
/-! Small facts for the walks: a local byte array written from its end, cut and made a string. -/
namespace Go.Proofs.Qxb6001096a
open Go.RowKit
def enc (b : UInt8) : Value := .int .u8 (b.toNat : Int)

theorem drop_set (arr : Array Value) (n : Nat) (v : Value) (l : List Value) (hn : n < arr.size) (h : arr.toList.drop (n + 1) = l) : (arr.setIfInBounds n v).toList.drop n = v :: l := by
  rw [Array.toList_setIfInBounds, List.drop_eq_getElem_cons (by simpa using hn)]
  simp [← h, List.drop_set_of_lt]

theorem sl31 (b n : Nat) (hn : n < 20) (w : World) :
    (Instr.sliceAt 31 (.pointer (some ⟨b, 0, none⟩)) (some (.int .i64 (n : Int))) none none).run Try.prog w = .ok (.slice (some ⟨b, n, none⟩) (20 - n) (20 - n)) w := by
  have hl : Try.prog.arrayLen 31 = 20 := by kernel_rfl
  have he : Try.prog.elem 31 = 5 := by kernel_rfl
  have hz : (Go.sizeOf 5).run Try.prog w = .ok 1 w := by kernel_rfl
  rw [run_sliceAt_array_l w 31 _ (by kernel_rfl) .i64 (n : Int) (by omega) (by rw [hl]; omega)]
  rw [he, hz, hl]
  have : ¬ 20 = n := by omega
  simp [slicedAt, this, Addr.add]
  omega

theorem sl29 (b n : Nat) (hn : n < 16) (w : World) :
    (Instr.sliceAt 29 (.pointer (some ⟨b, 0, none⟩)) (some (.int .i64 (n : Int))) none none).run Try.prog w = .ok (.slice (some ⟨b, n, none⟩) (16 - n) (16 - n)) w := by
  have hl : Try.prog.arrayLen 29 = 16 := by kernel_rfl
  have he : Try.prog.elem 29 = 5 := by kernel_rfl
  have hz : (Go.sizeOf 5).run Try.prog w = .ok 1 w := by kernel_rfl
  rw [run_sliceAt_array_l w 29 _ (by kernel_rfl) .i64 (n : Int) (by omega) (by rw [hl]; omega)]
  rw [he, hz, hl]
  have : ¬ 16 = n := by omega
  simp [slicedAt, this, Addr.add]
  omega

theorem conv_tail (w : World) (arr : Array Value) (n t len c : Nat) (D : List UInt8) (h : arr.toList.drop n = D.map enc) (hl : D.length = len) :
    (convert 30 9 (.slice (some ⟨w.heap.size, n, none⟩) len c)).run Try.prog (w.alloc (.cells arr t)) = .ok (.string ⟨D.toArray⟩) (w.alloc (.cells arr t)) := by
  have := run_convert_bytes_arg (P := Try.prog) (w.alloc (.cells arr t)) 30 5 Try.underlying30 Try.underlying5 w.heap.size n len c (D.map fun b => (b.toNat : Int)) (by simpa using hl) (by
    intro i hi
    rw [World.cell?_alloc_at _ _ _ _ rfl]
    have e : arr[n + i]? = (arr.toList.drop n)[i]? := by simp
    rw [e, h]
    have hi' : i < D.length := by omega
    simp [hi', enc]) 9 Try.underlying9
  rw [this]
  congr 2
  unfold strOfNums
  congr 1
  congr 1
  rw [List.map_map]
  conv => rhs; rw [← List.map_id D]
  apply List.map_congr_left
  intro b _
  simp

def bnd10 : Nat → Nat
  | 0 => 18446744073709551615
  | k + 1 => bnd10 k / 10
theorem bnd10_le (k : Nat) : bnd10 k ≤ 18446744073709551615 := by
  induction k with
  | zero => exact Nat.le_refl _
  | succ k ih => unfold bnd10; omega
theorem bnd10_20 : bnd10 20 = 0 := by decide +kernel

def bnd26 : Nat → Nat
  | 0 => 1073741825
  | k + 1 => bnd26 k / 26
theorem bnd26_le (k : Nat) : bnd26 k ≤ 1073741825 := by
  induction k with
  | zero => exact Nat.le_refl _
  | succ k ih => unfold bnd26; omega
theorem bnd26_16 : bnd26 16 = 0 := by decide +kernel
theorem bnd26_step (k x : Nat) (h : x ≤ bnd26 k) : (x - 1) / 26 ≤ bnd26 (k + 1) := by
  show (x - 1) / 26 ≤ bnd26 k / 26
  exact Nat.div_le_div_right (by omega)
theorem bnd10_step (k x : Nat) (h : x ≤ bnd10 k) : x / 10 ≤ bnd10 (k + 1) := by
  show x / 10 ≤ bnd10 k / 10
  exact Nat.div_le_div_right h

/-- A digit's value, a letter's value, as the walk spells it. -/
theorem enc_digit (y : Nat) : Value.int .u8 (48 + (y : Int) % 10) = enc (Col.dg y) := by
  unfold enc
  rw [Col.toNat_digit]
  congr 1
theorem enc_letter (y : Nat) : Value.int .u8 (65 + (y : Int) % 26) = enc (Col.lt y) := by
  unfold enc
  rw [Col.toNat_letter]
  congr 1
end Go.Proofs.Qxb6001096a
