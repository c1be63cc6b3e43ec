import Derived.Test.Qxb6001685aDoorVal
import Derived.BigQuiet
import Derived.Deep.QuietTactic
import Derived.Deep.DeepCutAuto
import Derived.Deep.RegionWith
namespace Go.Proofs.Qxb6001685aDoor
open Go.RowKit Go.Sort

theorem box3 {W wx : World} {v0 v1 v2 : Value} {t : Nat} (hb : Below (W.heap.size + 1) (W.alloc (.cells #[v0, v1, v2] t)) wx) :
    wx.cell? ⟨W.heap.size, 0, none⟩ = some v0 ∧ wx.cell? ⟨W.heap.size, 1, none⟩ = some v1 ∧ wx.cell? ⟨W.heap.size, 2, none⟩ = some v2 := by
  refine ⟨?_, ?_, ?_⟩
  · exact (hb.cell (p := ⟨W.heap.size, 0, none⟩) (by simp)).trans (World.cell?_alloc_at _ _ _ _ rfl)
  · exact (hb.cell (p := ⟨W.heap.size, 1, none⟩) (by simp)).trans (World.cell?_alloc_at _ _ _ _ rfl)
  · exact (hb.cell (p := ⟨W.heap.size, 2, none⟩) (by simp)).trans (World.cell?_alloc_at _ _ _ _ rfl)

/-- What a callee that writes nothing old leaves. -/
theorem step_below {B : Nat} {W wx wy : World} (h : Below B W wx) (hB : B ≤ wx.heap.size) (k : Below wx.heap.size wx wy) : Below B W wy ∧ B ≤ wy.heap.size :=
  ⟨h.trans (k.mono hB), Nat.le_trans hB k.size⟩

theorem box_after {W w' : World} {b : Nat} {v0 v1 v2 : Value} (hb : Below W.drew.heap.size W.drew w') (hz : b < W.heap.size) (c0 : W.cell? ⟨b, 0, none⟩ = some v0) (c1 : W.cell? ⟨b, 1, none⟩ = some v1) (c2 : W.cell? ⟨b, 2, none⟩ = some v2) :
    w'.cell? ⟨b, 0, none⟩ = some v0 ∧ w'.cell? ⟨b, 1, none⟩ = some v1 ∧ w'.cell? ⟨b, 2, none⟩ = some v2 :=
  ⟨(hb.cell (p := ⟨b, 0, none⟩) hz).trans c0, (hb.cell (p := ⟨b, 1, none⟩) hz).trans c1, (hb.cell (p := ⟨b, 2, none⟩) hz).trans c2⟩

set_option maxRecDepth 100000 in
set_option maxHeartbeats 2000000 in
theorem walk_small (n : Nat) (m : Int) (w : World) (hn : (n : Int) ≤ 9223372036854775807) (h0 : -9223372036854775808 ≤ m) (h1 : m ≤ 9223372036854775807) (htab : Lib.TabIs Tryd.prog w Qxb6001685aDoor.powName .u64 Lib.pow10Tab) :
    Calls Tryd.prog 3 #[.int .u64 n, .int .i64 m] w fun e w' => e = .returned (.bool true) ∧ Below w.heap.size w w' := by
  have HT := Lib.hid htab
  clear htab
  have EI : Hid (Lib.itoa (n : Int) = Lib.decDigits n) := Lib.itoa_nonneg n
  go_enter Tryd.func3, Tryd.ntmps3
  go_wp2_with fail
  refine (uintSmall_any n w hn).mono ?_
  rintro e w1 ⟨rfl, hb1⟩
  go_wp2_with fail
  have A1 : Below (w1.heap.size + 1) (w1.alloc (.cells #[.int .u8 1, .int .i64 n, .string ⟨#[]⟩] 25)) (w1.alloc (.cells #[.int .u8 1, .int .i64 n, .string ⟨#[]⟩] 25)) := Below.refl _ _
  have S1 : w1.heap.size + 1 ≤ (w1.alloc (.cells #[.int .u8 1, .int .i64 n, .string ⟨#[]⟩] 25)).heap.size := by simp
  have B1 : Below w.heap.size w (w1.alloc (.cells #[.int .u8 1, .int .i64 n, .string ⟨#[]⟩] 25)) := hb1.alloc hb1.size _
  refine (textInt_any n _ _ (by omega) hn (tab_below HT.out B1)).mono ?_
  rintro e w2 ⟨rfl, hb2⟩
  rw [EI.out]
  have A2 := step_below A1 S1 (by simpa using hb2)
  have B2 : Below w.heap.size w w2 := B1.trans (hb2.mono B1.size)
  clear hb2
  go_wp2_with fail
  refine (dec_any n w2 (by omega)).mono ?_
  rintro e w3 ⟨rfl, hb3⟩
  have A3 := step_below A2.1 A2.2 hb3
  have B3 : Below w.heap.size w w3 := B2.trans (hb3.mono B2.size)
  obtain ⟨c0, c1, c2⟩ := box3 A3.1
  clear hb3 A1 S1 A2 B1 B2
  have HA3 : Hid _ := A3
  have HB3 : Hid _ := B3
  clear A3 B3 hb1
  go_wp2_with fail
  refine (uint64_any 1 n _ w3).mono ?_
  rintro e w4 ⟨rfl, hb4⟩
  have hwn : IntKind.u64.wrap (n : Int) = (n : Int) := by rw [IntKind.wrap_u64]; omega
  rw [hwn]
  have A4 := step_below HA3.out.1 HA3.out.2 hb4
  have HA4 : Hid _ := A4
  have HB4 : Hid (Below w.heap.size w w4) := HB3.out.trans (hb4.mono HB3.out.size)
  clear c0 c1 c2
  obtain ⟨c0, c1, c2⟩ := box3 A4.1
  clear hwn hb4 A4 HA3 HB3
  go_wp2_with fail
  refine (isInt1_any n _ w4).mono ?_
  rintro e w5 ⟨rfl, hb5⟩
  have A5 := step_below HA4.out.1 HA4.out.2 hb5
  have HA5 : Hid _ := A5
  have B5 : Below w.heap.size w w5 := HB4.out.trans (hb5.mono HB4.out.size)
  clear c0 c1 c2
  obtain ⟨c0, c1, c2⟩ := box3 A5.1
  have hz5 : w1.heap.size < w5.heap.size := by have := A5.2; omega
  clear hb5 A5 HA4 HB4
  have B5d : Below w.heap.size w w5.drew := B5.drew
  go_upto_region 7 with fail
  go_cut [28] (fun a wx => a = .bool false ∧ Below w.heap.size w wx)
  case first =>
    have hwr : IntKind.i64.wrap (n : Int) = (n : Int) := by rw [IntKind.wrap_i64]; omega
    clear h0 h1 HT EI HA5 B5 hn
    go_region_with (go_at_call 9; refine (intValue_any _ _).mono ?_; rintro e w' ⟨rfl, hb⟩; obtain ⟨d0, d1, d2⟩ := box_after hb hz5 c0 c1 c2; have hx := B5d.trans (hb.mono B5d.size))
    all_goals (go_wp2_with fail; go_meet; exact ⟨rfl, by assumption⟩)
  case rest =>
    obtain ⟨rfl, hb6⟩ := hcut
    clear B5 B5d c0 c1 c2 hz5
    go_wp2_with fail
    refine (intValue_any m wc).mono ?_
    rintro e w7 ⟨rfl, hb7⟩
    have B7 : Below w.heap.size w w7 := hb6.trans (hb7.mono hb6.size)
    clear hb6 hb7
    go_wp2_with fail
    refine (textInt_any m _ w7 h0 h1 (tab_below HT.out B7)).mono ?_
    rintro e w8 ⟨rfl, hb8⟩
    have B8 : Below w.heap.size w w8 := B7.trans (hb8.mono B7.size)
    clear B7 hb8
    go_wp2_with fail
    refine (signed_any m w8 h0 h1).mono ?_
    rintro e w9 ⟨rfl, hb9⟩
    have B9 : Below w.heap.size w w9 := B8.trans (hb9.mono B8.size)
    clear B8 hb9
    have HB9 : Hid _ := B9
    clear B9
    go_wp2_with fail
    go_ret
    exact ⟨rfl, HB9.out⟩

set_option maxRecDepth 100000 in
set_option maxHeartbeats 2000000 in
theorem walk_big (n : Nat) (m : Int) (w : World) (hn : 9223372036854775807 < (n : Int)) (hn2 : (n : Int) ≤ 18446744073709551615) (h0 : -9223372036854775808 ≤ m) (h1 : m ≤ 9223372036854775807) (htab : Lib.TabIs Tryd.prog w Qxb6001685aDoor.powName .u64 Lib.pow10Tab) :
    Calls Tryd.prog 3 #[.int .u64 n, .int .i64 m] w fun e w' => e = .returned (.bool true) ∧ Below w.heap.size w w' := by
  have HT := Lib.hid htab
  clear htab
  obtain ⟨x, hx⟩ : ∃ x, wrap64 (n : Int) = x := ⟨_, rfl⟩
  have HW : Hid (IntKind.u64.wrap x = (n : Int)) := by
    rw [Hid, ← hx, IntKind.wrap_u64]
    unfold wrap64
    omega
  have HX : Hid _ := hx
  clear hx
  go_enter Tryd.func3, Tryd.ntmps3
  go_wp2_with fail
  refine (uintBig_any n w hn).mono ?_
  rintro e w1 ⟨rfl, hb1⟩
  rw [HX.out]
  go_wp2_with fail
  have A1 : Below (w1.heap.size + 1) (w1.alloc (.cells #[.int .u8 3, .int .i64 x, .string ⟨#[]⟩] 25)) (w1.alloc (.cells #[.int .u8 3, .int .i64 x, .string ⟨#[]⟩] 25)) := Below.refl _ _
  have S1 : w1.heap.size + 1 ≤ (w1.alloc (.cells #[.int .u8 3, .int .i64 x, .string ⟨#[]⟩] 25)).heap.size := by simp
  have B1 : Below w.heap.size w (w1.alloc (.cells #[.int .u8 3, .int .i64 x, .string ⟨#[]⟩] 25)) := hb1.alloc hb1.size _
  refine (textUint_any x n _ _ HW.out (by omega) (by omega) (tab_below HT.out B1)).mono ?_
  rintro e w2 ⟨rfl, hb2⟩
  have A2 := step_below A1 S1 (by simpa using hb2)
  have B2 : Below w.heap.size w w2 := B1.trans (hb2.mono B1.size)
  clear hb2
  go_wp2_with fail
  refine (dec_any n w2 (by omega)).mono ?_
  rintro e w3 ⟨rfl, hb3⟩
  have A3 := step_below A2.1 A2.2 hb3
  have B3 : Below w.heap.size w w3 := B2.trans (hb3.mono B2.size)
  obtain ⟨c0, c1, c2⟩ := box3 A3.1
  clear hb3 A1 S1 A2 B1 B2
  have HA3 : Hid _ := A3
  have HB3 : Hid _ := B3
  clear A3 B3 hb1
  go_wp2_with fail
  refine (uint64_any 3 x _ w3).mono ?_
  rintro e w4 ⟨rfl, hb4⟩
  rw [HW.out]
  have A4 := step_below HA3.out.1 HA3.out.2 hb4
  have HA4 : Hid _ := A4
  have HB4 : Hid (Below w.heap.size w w4) := HB3.out.trans (hb4.mono HB3.out.size)
  clear c0 c1 c2
  obtain ⟨c0, c1, c2⟩ := box3 A4.1
  clear hb4 A4 HA3 HB3
  go_wp2_with fail
  refine (isInt3_any x _ w4).mono ?_
  rintro e w5 ⟨rfl, hb5⟩
  have A5 := step_below HA4.out.1 HA4.out.2 hb5
  have B5 : Below w.heap.size w w5 := HB4.out.trans (hb5.mono HB4.out.size)
  clear c0 c1 c2
  obtain ⟨c0, c1, c2⟩ := box3 A5.1
  clear hb5 A5 HA4 HB4
  have HB5 : Hid _ := B5
  clear B5
  go_wp2_with fail
  refine (intValue_any m w5).mono ?_
  rintro e w7 ⟨rfl, hb7⟩
  have B7 : Below w.heap.size w w7 := HB5.out.trans (hb7.mono HB5.out.size)
  clear hb7 c0 c1 c2
  go_wp2_with fail
  refine (textInt_any m _ w7 h0 h1 (tab_below HT.out B7)).mono ?_
  rintro e w8 ⟨rfl, hb8⟩
  have B8 : Below w.heap.size w w8 := B7.trans (hb8.mono B7.size)
  clear B7 hb8
  go_wp2_with fail
  refine (signed_any m w8 h0 h1).mono ?_
  rintro e w9 ⟨rfl, hb9⟩
  have B9 : Below w.heap.size w w9 := B8.trans (hb9.mono B8.size)
  clear B8 hb9
  have HB9 : Hid _ := B9
  clear B9
  go_wp2_with fail
  go_ret
  exact ⟨rfl, HB9.out⟩

theorem walk (a0 a1 : Int) (w0 : (Lit.int .u64 a0).wf = true) (w1 : (Lit.int .i64 a1).wf = true) (w : World) (htab : Lib.TabIs Tryd.prog w Qxb6001685aDoor.powName .u64 Lib.pow10Tab) :
    Calls Tryd.prog 3 #[.int .u64 a0, .int .i64 a1] w fun e w' => e = .returned (.bool true) ∧ Below w.heap.size w w' := by
  have hr : 0 ≤ a0 ∧ a0 ≤ 18446744073709551615 := by
    have h := w0
    simp only [Lit.wf, Bool.and_eq_true, decide_eq_true_eq] at h
    exact h
  have hm : -9223372036854775808 ≤ a1 ∧ a1 ≤ 9223372036854775807 := by
    have h := w1
    simp only [Lit.wf, Bool.and_eq_true, decide_eq_true_eq] at h
    exact h
  obtain ⟨n, rfl⟩ := Int.eq_ofNat_of_zero_le hr.1
  by_cases h : (n : Int) ≤ 9223372036854775807
  · exact walk_small n a1 w h hm.1 hm.2 htab
  · exact walk_big n a1 w (by omega) hr.2 hm.1 hm.2 htab
end Go.Proofs.Qxb6001685aDoor
