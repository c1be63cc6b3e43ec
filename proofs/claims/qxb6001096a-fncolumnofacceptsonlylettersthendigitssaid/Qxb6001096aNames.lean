import Derived.Test.Qxb6001096aAid
namespace Go.Proofs.Qxb6001096a
open Go.RowKit
set_option maxHeartbeats 400000 in
theorem utoa_any (u : Int) (w : World) (h0 : 0 ≤ u) (h1 : u ≤ 18446744073709551615) :
    Calls Try.prog 6 #[.int .u64 u] w fun e w' => ∃ D : List UInt8, e = .returned (.string ⟨D.toArray⟩) ∧ D ≠ [] ∧ D.length ≤ 20 ∧ (∀ b ∈ D, Col.isDig b = true) ∧ Below w.heap.size w w' := by
  go_enter Try.func6, Try.ntmps6
  go_wp2
  go_loopw [0, 4] (fun x i wr => ∃ (n y : Nat) (arr : Array Value) (D : List UInt8), n < 20 ∧ arr.size = 20 ∧ D.length + (n + 1) = 20 ∧ y ≤ bnd10 D.length ∧ arr.toList.drop (n + 1) = D.map enc ∧ (∀ b ∈ D, Col.isDig b = true) ∧ x = .int .u64 y ∧ i = .int .i64 (n + 1) ∧ wr = w.alloc (.cells arr 31))
    (fun _ i _ => (intOf i).toNat)
  case atStart =>
    refine ⟨19, u.toNat, _, [], by omega, rfl, rfl, ?_, rfl, by simp, ?_, rfl, rfl⟩
    · show u.toNat ≤ 18446744073709551615
      omega
    · congr 1; omega
  case round =>
    obtain ⟨n, y, arr, D, hn, ha, hD, hy, hd, hdig, rfl, rfl, rfl⟩ := hrel
    have hy64 : (y : Int) ≤ 18446744073709551615 := by have := bnd10_le D.length; omega
    obtain ⟨v, hv⟩ : ∃ v, arr[n]? = some v := ⟨arr[n], by simp [ha, hn]⟩
    have hsl := fun wx => sl31 w.heap.size n hn wx
    have hds := drop_set arr n (.int .u8 (48 + (y : Int) % 10)) _ (by omega) hd
    rw [enc_digit] at hds
    have hcv := fun c => conv_tail w (arr.setIfInBounds n (enc (Col.dg y))) n 31 (20 - n) c (Col.dg y :: D) (by rw [hds]; rfl) (by simp; omega)
    rw [← enc_digit] at hcv
    have HD : Hid _ := hds
    clear hds
    go_wp2
    · go_ret
      refine ⟨_, rfl, by simp, by simp; omega, ?_, (Below.refl _ _).alloc (Nat.le_refl _) _⟩
      intro b hb
      rcases List.mem_cons.1 hb with rfl | hb
      · exact Col.dig_digit y
      · exact hdig b hb
    · have hne : (((y : Int) / 10) == 0) = false := by assumption
      have hy10 : y / 10 ≠ 0 := by simp at hne; omega
      have hst := bnd10_step _ _ hy
      have hn0 : n ≠ 0 := by
        intro e
        have : D.length + 1 = 20 := by omega
        rw [this, bnd10_20] at hst
        omega
      go_roundw
      case rel =>
        refine ⟨n - 1, y / 10, _, Col.dg y :: D, by omega, by simpa using ha, by simp; omega, by simpa using hst, ?_, ?_, by go_num, ?_, rfl⟩
        · have e : n - 1 + 1 = n := by omega
          rw [e, enc_digit, HD.out]
          rfl
        · intro b hb
          rcases List.mem_cons.1 hb with rfl | hb
          · exact Col.dig_digit y
          · exact hdig b hb
        · congr 1; omega
      case measure => simp [intOf]
set_option maxHeartbeats 400000 in
theorem name_any (n : Nat) (w : World) (h1 : n ≤ 1073741824) :
    Calls Try.prog 5 #[.int .i64 n] w fun e w' => e = .returned (.string ⟨(Col.nm (n + 1)).toArray⟩) ∧ (Col.nm (n + 1)).length ≤ 16 ∧ Below w.heap.size w w' := by
  go_enter Try.func5, Try.ntmps5
  go_wp2
  go_loopw [4, 5] (fun i x wr => ∃ (m y : Nat) (arr : Array Value) (D : List UInt8), m ≤ 16 ∧ arr.size = 16 ∧ D.length + m = 16 ∧ y ≤ bnd26 D.length ∧ arr.toList.drop m = D.map enc ∧ Hid (Col.nm (n + 1) = Col.nm y ++ D) ∧ i = .int .i64 m ∧ x = .int .i64 y ∧ wr = w.alloc (.cells arr 29))
    (fun i _ _ => (intOf i).toNat)
  case atStart =>
    refine ⟨16, n + 1, _, [], by omega, rfl, rfl, ?_, rfl, by simp [Hid], rfl, by go_num, rfl⟩
    show n + 1 ≤ 1073741825
    omega
  case round =>
    obtain ⟨m, y, arr, D, hm, ha, hD, hy, hd, hnm, rfl, rfl, rfl⟩ := hrel
    have hy64 : (y : Int) ≤ 1073741825 := by have := bnd26_le D.length; omega
    by_cases hy0 : 0 < y
    · have hm0 : 0 < m := by
        rcases Nat.eq_zero_or_pos m with e | e
        · have : D.length = 16 := by omega
          rw [this, bnd26_16] at hy
          omega
        · exact e
      obtain ⟨k, rfl⟩ : ∃ k, m = k + 1 := ⟨m - 1, by omega⟩
      obtain ⟨z, rfl⟩ : ∃ z, y = z + 1 := ⟨y - 1, by omega⟩
      obtain ⟨v, hv⟩ : ∃ v, arr[k]? = some v := ⟨arr[k], by simp⟩
      have hst := bnd26_step _ _ hy
      have hnx := Col.nm_step (z + 1) (by omega)
      have HN : Hid (Col.nm (n + 1) = Col.nm (z / 26) ++ Col.lt z :: D) := by
        rw [Hid, hnm.out, hnx]; simp
      clear hnm hnx
      have HD : Hid ((arr.setIfInBounds k (.int .u8 (65 + (z : Int) % 26))).toList.drop k = (Col.lt z :: D).map enc) := by
        have := drop_set arr k (.int .u8 (65 + (z : Int) % 26)) _ (by omega) hd
        rw [Hid, this, enc_letter]
        rfl
      go_wp2
      go_roundw
      case rel =>
        exact ⟨k, z / 26, _, Col.lt z :: D, by omega, by simpa using ha, by simp; omega, by simpa using hst, HD.out, HN, by go_num, by go_num, rfl⟩
      case measure => simp [intOf]
    · have : y = 0 := by omega
      subst this
      have hnm' : Col.nm (n + 1) = D := hnm.out
      have hDne : D ≠ [] := by
        rw [← hnm', Col.nm_step _ (by omega)]
        simp
      have hDl : D.length ≠ 0 := fun e => hDne (List.length_eq_zero_iff.1 e)
      have hsl := fun wx => sl29 w.heap.size m (by omega) wx
      have hcv := fun c => conv_tail w arr m 29 (16 - m) c D hd (by omega)
      have HN : Hid (Col.nm (n + 1) = D) := hnm'
      clear hnm hnm' 
      go_wp2
      go_ret
      refine ⟨by rw [HN.out]; rfl, by rw [HN.out]; omega, (Below.refl _ _).alloc (Nat.le_refl _) _⟩
end Go.Proofs.Qxb6001096a
