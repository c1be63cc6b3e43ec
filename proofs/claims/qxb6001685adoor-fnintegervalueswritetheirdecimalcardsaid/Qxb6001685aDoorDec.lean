import Derived.Test.Qxb6001685aDoorRows
import Derived.WalkKit
import Derived.ProofKit
import Derived.Laws.BytesArg
import Derived.Lib.ItoaNum
namespace Go.Proofs.Qxb6001685aDoor
open Go.RowKit

/-! ### g1Dec: the decimal digits, by repeated division -/
def enc (b : UInt8) : Value := .int .u8 (b.toNat : Int)
/-- The digit of y modulo 10. -/
def dgt (y : Nat) : UInt8 := UInt8.ofNat (48 + y % 10)

theorem toNat_dgt (y : Nat) : (dgt y).toNat = 48 + y % 10 := by
  unfold dgt
  simp [UInt8.toNat_ofNat']
  omega
theorem enc_digit (y : Nat) : Value.int .u8 (48 + (y : Int) % 10) = enc (dgt y) := by
  unfold enc
  rw [toNat_dgt]
  congr 1

theorem dec_small (y : Nat) (h : y < 10) : Lib.decDigits y = [dgt y] := by
  rw [Lib.decDigits_one h, dgt, Nat.mod_eq_of_lt h]
theorem dec_step (y : Nat) (h : ¬ y < 10) : Lib.decDigits y = Lib.decDigits (y / 10) ++ [dgt y] := by
  rw [Lib.decDigits, dif_neg h]
  rfl

theorem drop_set (arr : Array Value) (n : Nat) (v : Value) (l : List Value) (hn : n < arr.size) (h : arr.toList.drop (n + 1) = l) : (arr.setIfInBounds n v).toList.drop n = v :: l := by
  rw [Array.toList_setIfInBounds, List.drop_eq_getElem_cons (by simpa using hn)]
  simp [← h, List.drop_set_of_lt]

theorem sl36 (b n : Nat) (hn : n < 20) (w : World) :
    (Instr.sliceAt 36 (.pointer (some ⟨b, 0, none⟩)) (some (.int .i64 (n : Int))) none none).run Tryd.prog w = .ok (.slice (some ⟨b, n, none⟩) (20 - n) (20 - n)) w := by
  have hl : Tryd.prog.arrayLen 36 = 20 := by kernel_rfl
  have he : Tryd.prog.elem 36 = 5 := by kernel_rfl
  have hz : (Go.sizeOf 5).run Tryd.prog w = .ok 1 w := by kernel_rfl
  rw [run_sliceAt_array_l w 36 _ (by kernel_rfl) .i64 (n : Int) (by omega) (by rw [hl]; omega)]
  rw [he, hz, hl]
  have : ¬ 20 = n := by omega
  simp [slicedAt, this, Addr.add]
  omega

theorem conv_tail (w : World) (arr : Array Value) (n t len c : Nat) (D : List UInt8) (h : arr.toList.drop n = D.map enc) (hl : D.length = len) :
    (convert 37 9 (.slice (some ⟨w.heap.size, n, none⟩) len c)).run Tryd.prog (w.alloc (.cells arr t)) = .ok (.string ⟨D.toArray⟩) (w.alloc (.cells arr t)) := by
  have := run_convert_bytes_arg (P := Tryd.prog) (w.alloc (.cells arr t)) 37 5 Tryd.underlying37 Tryd.underlying5 w.heap.size n len c (D.map fun b => (b.toNat : Int)) (by simpa using hl) (by
    intro i hi
    rw [World.cell?_alloc_at _ _ _ _ rfl]
    have e : arr[n + i]? = (arr.toList.drop n)[i]? := by simp
    rw [e, h]
    have hi' : i < D.length := by omega
    simp [hi', enc]) 9 Tryd.underlying9
  rw [this]
  congr 2
  unfold strOfNums
  congr 1
  congr 1
  rw [List.map_map]
  conv => rhs; rw [← List.map_id D]
  apply List.map_congr_left
  intro b _
  simp

def bnd10 : Nat → Nat
  | 0 => 18446744073709551615
  | k + 1 => bnd10 k / 10
theorem bnd10_le (k : Nat) : bnd10 k ≤ 18446744073709551615 := by
  induction k with
  | zero => exact Nat.le_refl _
  | succ k ih => unfold bnd10; omega
theorem bnd10_20 : bnd10 20 = 0 := by decide +kernel
theorem bnd10_step (k x : Nat) (h : x ≤ bnd10 k) : x / 10 ≤ bnd10 (k + 1) := by
  show x / 10 ≤ bnd10 k / 10
  exact Nat.div_le_div_right h

set_option maxHeartbeats 400000 in
theorem dec_any (u : Nat) (w : World) (h1 : (u : Int) ≤ 18446744073709551615) :
    Calls Tryd.prog 6 #[.int .u64 u] w fun e w' => e = .returned (.string ⟨(Lib.decDigits u).toArray⟩) ∧ Below w.heap.size w w' := by
  go_enter Tryd.func6, Tryd.ntmps6
  go_wp2
  go_loopw [0, 4] (fun x i wr => ∃ (n y : Nat) (arr : Array Value) (D : List UInt8), n < 20 ∧ arr.size = 20 ∧ D.length + (n + 1) = 20 ∧ y ≤ bnd10 D.length ∧ arr.toList.drop (n + 1) = D.map enc ∧ Hid (Lib.decDigits u = Lib.decDigits y ++ D) ∧ x = .int .u64 y ∧ i = .int .i64 (n + 1) ∧ wr = w.alloc (.cells arr 36))
    (fun _ i _ => (intOf i).toNat)
  case atStart =>
    refine ⟨19, u, _, [], by omega, rfl, rfl, ?_, rfl, by simp [Hid], rfl, rfl, rfl⟩
    show u ≤ 18446744073709551615
    omega
  case round =>
    obtain ⟨n, y, arr, D, hn, ha, hD, hy, hd, HD0, rfl, rfl, rfl⟩ := hrel
    have hy64 : (y : Int) ≤ 18446744073709551615 := by have := bnd10_le D.length; omega
    obtain ⟨v, hv⟩ : ∃ v, arr[n]? = some v := ⟨arr[n], by simp [ha, hn]⟩
    have hsl := fun wx => sl36 w.heap.size n hn wx
    have hds := drop_set arr n (.int .u8 (48 + (y : Int) % 10)) _ (by omega) hd
    rw [enc_digit] at hds
    have hcv := fun c => conv_tail w (arr.setIfInBounds n (enc (dgt y))) n 36 (20 - n) c (dgt y :: D) (by rw [hds]; rfl) (by simp; omega)
    rw [← enc_digit] at hcv
    have HD : Hid _ := hds
    clear hds
    by_cases hz : y / 10 = 0
    · have hzb : ((y : Int) / 10 == 0) = true := beq_iff_eq.2 (by omega)
      have HF : Hid (Lib.decDigits u = dgt y :: D) := by rw [Hid, HD0.out, dec_small y (by omega)]; rfl
      clear hz HD0
      go_wp2
      go_ret
      exact ⟨by rw [HF.out]; rfl, (Below.refl _ _).alloc (Nat.le_refl _) _⟩
    · have hzb : ((y : Int) / 10 == 0) = false := beq_eq_false_iff_ne.2 (by omega)
      have HF : Hid (Lib.decDigits u = Lib.decDigits (y / 10) ++ dgt y :: D) := by rw [Hid, HD0.out, dec_step y (by omega)]; simp
      have hst := bnd10_step _ _ hy
      have hn0 : n ≠ 0 := by
        intro e
        have : D.length + 1 = 20 := by omega
        rw [this, bnd10_20] at hst
        omega
      clear hz HD0
      go_wp2
      go_roundw
      case rel =>
        refine ⟨n - 1, y / 10, _, dgt y :: D, by omega, by simpa using ha, by simp; omega, by simpa using hst, ?_, HF, by go_num, ?_, rfl⟩
        · have e : n - 1 + 1 = n := by omega
          rw [e, enc_digit, HD.out]
          rfl
        · congr 1; omega
      case measure => simp [intOf]
end Go.Proofs.Qxb6001685aDoor
