import Derived.Test.Qxb6001685aDoorUint
import Derived.Laws.BitsAllLaws
import Derived.WalkSpells
namespace Go.Proofs.Qxb6001685aDoor
open Go.RowKit Go.Sort

/-! ### Numbers -/
theorem not64 (b : Nat) (hb : b < 18446744073709551616) : bits .xor .u64 18446744073709551615 (b : Int) = 18446744073709551615 - (b : Int) := by
  have h := u64_xor_nat 18446744073709551615 b (by omega) hb
  have e : (18446744073709551615 ^^^ b : Nat) = 18446744073709551615 - b := by
    have h1 : (BitVec.allOnes 64 ^^^ BitVec.ofNat 64 b).toNat = (~~~ BitVec.ofNat 64 b).toNat := by rw [BitVec.allOnes_xor]
    rw [BitVec.toNat_xor, BitVec.toNat_not, BitVec.toNat_allOnes, BitVec.toNat_ofNat, Nat.mod_eq_of_lt hb] at h1
    exact h1
  rw [e] at h
  have e2 : ((18446744073709551615 - b : Nat) : Int) = 18446744073709551615 - (b : Int) := by omega
  rw [e2] at h
  exact h

/-- The magnitude of a negative number, as two's complement has it. -/
theorem neg_arg (u : Nat) (h1 : 1 ≤ u) (h2 : u ≤ 9223372036854775808) :
    IntKind.u64.wrap (bits BinOp.xor IntKind.u64 IntKind.u64.max (IntKind.u64.wrap (-(u : Int))) + 1) = (u : Int) := by
  have e1 : IntKind.u64.wrap (-(u : Int)) = ((18446744073709551616 - u : Nat) : Int) := by rw [IntKind.wrap_u64]; omega
  have e2 : IntKind.u64.max = 18446744073709551615 := rfl
  rw [e1, e2, not64 _ (by omega), IntKind.wrap_u64]
  omega

theorem minus_dec (D : List UInt8) : (⟨#[45]⟩ : ByteArray) ++ ⟨D.toArray⟩ = ⟨(45 :: D).toArray⟩ := by
  apply ByteArray.ext
  rw [ByteArray.data_append]
  simp

theorem dec_len (u : Nat) (h : u < 18446744073709551616) : (Lib.decDigits u).length ≤ 20 := by
  rw [Lib.decDigits_length]
  rcases Nat.eq_zero_or_pos u with e | e
  · subst e
    rw [Lib.nDigits, dif_pos (by omega)]
    omega
  · have := Lib.numDigits_eq u e h
    split at this <;> omega

/-! ### The small functions of package sqlparse -/
theorem intValue_any (n : Int) (w : World) : Calls Tryd.prog 9 #[.int .i64 n] w fun e w' => e = .returned (.agg #[.int .u8 1, .int .i64 n, .string ⟨#[]⟩]) ∧ Below w.heap.size w w' := by
  go_enter Tryd.func9, Tryd.ntmps9
  go_wp2
  exact bodyPost_ret (v := .agg #[.int .u8 1, .int .i64 n, .string ⟨#[]⟩]) (by simp [results, Tryd.results9, go_sem]) rfl ⟨rfl, (Below.refl _ _).alloc (Nat.le_refl _) _⟩

theorem uintBig_any (n : Int) (w : World) (h : 9223372036854775807 < n) : Calls Tryd.prog 4 #[.int .u64 n] w fun e w' => e = .returned (.agg #[.int .u8 3, .int .i64 (wrap64 n), .string ⟨#[]⟩]) ∧ Below w.heap.size w w' := by
  go_enter Tryd.func4, Tryd.ntmps4
  go_wp2
  exact bodyPost_ret (v := .agg #[.int .u8 3, .int .i64 (wrap64 n), .string ⟨#[]⟩]) (by simp [results, Tryd.results4, go_sem]) rfl ⟨rfl, (Below.refl _ _).alloc (Nat.le_refl _) _⟩

theorem uintSmall_any (n : Nat) (w : World) (h : (n : Int) ≤ 9223372036854775807) : Calls Tryd.prog 4 #[.int .u64 n] w fun e w' => e = .returned (.agg #[.int .u8 1, .int .i64 n, .string ⟨#[]⟩]) ∧ Below w.heap.size w w' := by
  go_enter Tryd.func4, Tryd.ntmps4
  go_wp2_with fail
  refine (intValue_any _ _).mono ?_
  rintro e w1 ⟨rfl, hb⟩
  have hz : w.heap.size < w1.heap.size := by have := hb.size; simp at this; omega
  have c0 : w1.cell? ⟨w.heap.size, 0, none⟩ = some (.int .u8 0) := (hb.cell (p := ⟨w.heap.size, 0, none⟩) (by simp)).trans (World.cell?_alloc_at _ _ _ _ rfl)
  have c1 : w1.cell? ⟨w.heap.size, 1, none⟩ = some (.int .i64 0) := (hb.cell (p := ⟨w.heap.size, 1, none⟩) (by simp)).trans (World.cell?_alloc_at _ _ _ _ rfl)
  have c2 : w1.cell? ⟨w.heap.size, 2, none⟩ = some (.string ⟨#[]⟩) := (hb.cell (p := ⟨w.heap.size, 2, none⟩) (by simp)).trans (World.cell?_alloc_at _ _ _ _ rfl)
  have f : ∀ o, w1.frozen? ⟨w.heap.size, o, none⟩ = false := fun o => (hb.frozen (p := ⟨w.heap.size, o, none⟩) (by simp)).trans (World.frozen?_alloc_at _ _ _ _ rfl)
  have HB : Hid (Below w.heap.size w w1) := ((Below.refl _ _).alloc (Nat.le_refl _) _).trans (hb.mono (by simp))
  clear hb
  go_wp2_with fail
  refine bodyPost_ret (v := .agg #[.int .u8 1, .int .i64 n, .string ⟨#[]⟩]) (by simp [results, Tryd.results4, go_sem, c0, c1, c2]) rfl ⟨rfl, ?_⟩
  exact ((HB.out.setCell (Nat.le_refl _) _).setCell (Nat.le_refl _) _).setCell (Nat.le_refl _) _

theorem uint64_any (k n : Int) (s : ByteArray) (w : World) : Calls Tryd.prog 7 #[.agg #[.int .u8 k, .int .i64 n, .string s]] w fun e w' => e = .returned (.int .u64 (IntKind.u64.wrap n)) ∧ Below w.heap.size w w' := by
  go_enter Tryd.func7, Tryd.ntmps7
  go_wp2
  go_ret
  exact ⟨rfl, (Below.refl _ _).alloc (Nat.le_refl _) _⟩

theorem isInt1_any (n : Int) (s : ByteArray) (w : World) : Calls Tryd.prog 8 #[.agg #[.int .u8 1, .int .i64 n, .string s]] w fun e w' => e = .returned (.bool true) ∧ Below w.heap.size w w' := by
  go_enter Tryd.func8, Tryd.ntmps8
  go_wp2
  go_ret
  exact ⟨rfl, (Below.refl _ _).alloc (Nat.le_refl _) _⟩
theorem isInt3_any (n : Int) (s : ByteArray) (w : World) : Calls Tryd.prog 8 #[.agg #[.int .u8 3, .int .i64 n, .string s]] w fun e w' => e = .returned (.bool true) ∧ Below w.heap.size w w' := by
  go_enter Tryd.func8, Tryd.ntmps8
  go_wp2
  go_ret
  exact ⟨rfl, (Below.refl _ _).alloc (Nat.le_refl _) _⟩

theorem signed_any (m : Int) (w : World) (h0 : -9223372036854775808 ≤ m) (h1 : m ≤ 9223372036854775807) :
    Calls Tryd.prog 10 #[.int .i64 m] w fun e w' => e = .returned (.string ⟨(Lib.itoa m).toArray⟩) ∧ Below w.heap.size w w' := by
  by_cases h : m < 0
  · obtain ⟨u, rfl⟩ : ∃ u : Nat, m = -(u : Int) := ⟨m.natAbs, by omega⟩
    have ei : Hid (Lib.itoa (-(u : Int)) = 45 :: Lib.decDigits u) := Lib.itoa_neg u (by omega)
    have hl := dec_len u (by omega)
    have hna := neg_arg u (by omega) (by omega)
    have HA : Hid _ := hna
    clear hna
    go_enter Tryd.func10, Tryd.ntmps10
    go_wp2_with fail
    rw [HA.out]
    refine (dec_any u _ (by omega)).mono ?_
    rintro e w1 ⟨rfl, hb⟩
    generalize Lib.decDigits u = D at *
    have hz : D.toArray.size ≤ 20 := by simpa using hl
    go_wp2_with fail
    go_ret
    exact ⟨by rw [ei.out, ← minus_dec]; rfl, hb⟩
  · obtain ⟨u, rfl⟩ : ∃ u : Nat, m = (u : Int) := ⟨m.toNat, by omega⟩
    have ei : Hid (Lib.itoa (u : Int) = Lib.decDigits u) := Lib.itoa_nonneg u
    go_enter Tryd.func10, Tryd.ntmps10
    go_wp2_with fail
    refine (dec_any u _ (by omega)).mono ?_
    rintro e w1 ⟨rfl, hb⟩
    go_wp2_with fail
    go_ret
    exact ⟨by rw [ei.out]; rfl, hb⟩

theorem textInt_any (n : Int) (s : ByteArray) (w : World) (h0 : -9223372036854775808 ≤ n) (h1 : n ≤ 9223372036854775807) (htab : Lib.TabIs Tryd.prog w Qxb6001685aDoor.powName .u64 Lib.pow10Tab) :
    Calls Tryd.prog 5 #[.agg #[.int .u8 1, .int .i64 n, .string s]] w fun e w' => e = .returned (.string ⟨(Lib.itoa n).toArray⟩) ∧ Below w.heap.size w w' := by
  have HT := Lib.hid htab
  clear htab
  go_enter Tryd.func5, Tryd.ntmps5
  go_wp2_with fail
  refine (formatInt_any n h0 h1 _ (Lib.tabIs_alloc HT.out _)).mono ?_
  rintro e w1 ⟨rfl, hb⟩
  have HB : Hid (Below w.heap.size w w1) := ((Below.refl _ _).alloc (Nat.le_refl _) _).trans (hb.mono (by simp))
  clear hb
  go_wp2_with fail
  go_ret
  exact ⟨rfl, HB.out⟩

theorem textUint_any (n : Int) (u : Nat) (s : ByteArray) (w : World) (hu : IntKind.u64.wrap n = (u : Int)) (h1 : 100 ≤ u) (h2 : u < 18446744073709551616) (htab : Lib.TabIs Tryd.prog w Qxb6001685aDoor.powName .u64 Lib.pow10Tab) :
    Calls Tryd.prog 5 #[.agg #[.int .u8 3, .int .i64 n, .string s]] w fun e w' => e = .returned (.string ⟨(Lib.decDigits u).toArray⟩) ∧ Below w.heap.size w w' := by
  have HT := Lib.hid htab
  have HU := Lib.hid hu
  clear htab hu
  go_enter Tryd.func5, Tryd.ntmps5
  go_wp2_with fail
  refine (uint64_any 3 n s _).mono ?_
  rintro e w1 ⟨rfl, hb⟩
  rw [HU.out]
  have HB : Hid (Below w.heap.size w w1) := ((Below.refl _ _).alloc (Nat.le_refl _) _).trans (hb.mono (by simp))
  have HT1 := Lib.hid (tab_below HT.out HB.out)
  clear hb
  go_wp2_with fail
  refine (formatUint_any u h1 h2 w1 HT1.out).mono ?_
  rintro e w2 ⟨rfl, hb2⟩
  have HB2 : Hid (Below w.heap.size w w2) := HB.out.trans (hb2.mono HB.out.size)
  clear hb2
  go_wp2_with fail
  go_ret
  exact ⟨rfl, HB2.out⟩
end Go.Proofs.Qxb6001685aDoor
