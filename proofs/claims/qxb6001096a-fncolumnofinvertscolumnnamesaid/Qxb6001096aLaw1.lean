/-
  The proof of 'Rows.FnColumnOfInvertsColumnNameSaid', on the kit's shell.
-/
import Derived.Test.Qxb6001096aRows
import Derived.WalkKit
import Derived.ProofKit
import Derived.OpenShut
import Derived.ShutString
import Derived.Test.Qxb6001096aNames
import Derived.Test.Qxb6001096aColOf
namespace Go.Proofs.Qxb6001096a.fnColumnOfInvertsColumnName
open Go.ChangeShapes Go.WideShapes Go.ChangeAt Go.RowKit
open Go.ChangeMaps (open_string shut_string)
set_option linter.unusedVariables false      -- a walk need not use every 'w<i>' (that an integer argument fits its kind)

theorem own : ownKnob Try.prog.godebug = none := by kernel_rfl

/-! ### STEP 1: THE WALK: the Go text returns true. -/
theorem concat_data (L D : List UInt8) : ((⟨L.toArray⟩ : ByteArray) ++ ⟨D.toArray⟩).data.toList = L ++ D := by
  rw [ByteArray.data_append]
  simp
theorem concat_size (L D : List UInt8) : ((⟨L.toArray⟩ : ByteArray) ++ ⟨D.toArray⟩).size = L.length + D.length := by
  rw [← ByteArray.size_data, ByteArray.data_append]
  simp

set_option maxRecDepth 100000 in
set_option maxHeartbeats 400000 in
theorem walk (a0 : Int) (a1 : Int) (w0 : (Lit.int .i64 a0).wf = true) (w1 : (Lit.int .u64 a1).wf = true) (w : World) :
    Calls Try.prog 3 #[.int .i64 a0, .int .u64 a1] w fun e w' => e = .returned (.bool true) ∧ Below w.heap.size w w' := by
  have hr : 0 ≤ a1 ∧ a1 ≤ 18446744073709551615 := by
    have h := w1
    simp only [Lit.wf, Bool.and_eq_true, decide_eq_true_eq] at h
    exact h
  by_cases c0 : a0 < 0
  · go_enter Try.func3, Try.ntmps3
    go_wp2
    go_ret
    exact ⟨rfl, Below.refl _ _⟩
  · by_cases c1 : 1073741824 < a0
    · go_enter Try.func3, Try.ntmps3
      go_wp2
      go_ret
      exact ⟨rfl, Below.refl _ _⟩
    · obtain ⟨n, rfl⟩ := Int.eq_ofNat_of_zero_le (show 0 ≤ a0 by omega)
      go_enter Try.func3, Try.ntmps3
      go_wp2_with fail
      refine (name_any n w (by omega)).mono ?_
      rintro e w1 ⟨rfl, hl, hb1⟩
      go_wp2_with fail
      refine (utoa_any a1 w1 hr.1 hr.2).mono ?_
      rintro e w2 ⟨D, rfl, hne, hDl, hdig, hb2⟩
      have HL := Col.law1 n D hdig hne
      have H : Hid _ := HL
      clear HL hdig hne
      generalize Col.nm (n + 1) = L at *
      have hz : L.toArray.size ≤ 16 := by simpa using hl
      have hz2 : D.toArray.size ≤ 20 := by simpa using hDl
      go_wp2_with fail
      refine (zz_any _ w2 (by rw [concat_size]; omega)).mono ?_
      rintro e w3 ⟨rfl, hb3⟩
      rw [concat_data, H.out]
      have hb : Below w.heap.size w w3 := (hb1.trans (hb2.mono hb1.size)).trans (hb3.mono (Nat.le_trans hb1.size hb2.size))
      clear hb1 hb2 hb3 H hz hz2 hl hDl
      by_cases hn : n < 16384
      · rw [if_pos hn]
        have hn' : (n : Int) < 16384 := by omega
        clear hn
        go_wp2_with fail
        go_ret
        exact ⟨rfl, hb⟩
      · rw [if_neg hn]
        have hn' : ¬ (n : Int) < 16384 := by omega
        clear hn
        have h1 : ((-1 : Int) == -1) = true := by decide
        go_wp2_with fail
        go_ret
        exact ⟨rfl, hb⟩

/-! ### THE ROW's STEP: WRITTEN OUT: LEAVE IT -/
set_option maxRecDepth 100000 in
theorem lifted (os : Os) (started : os.Started) (H : Type) (enc : TypeId × Value → H) :
    ReturnsInHanded {} Try.checked os 3 .any (Rows.fnColumnOfInvertsColumnNameSpec.pre6 enc Try.prog Try.f3 Rows.fnColumnOfInvertsColumnNameRow.domain false) (Rows.fnColumnOfInvertsColumnNameSpec.post enc Try.prog Try.f3 false true false false) := by
  refine returnsInHanded_of_change (C := Try.checked) own started (by kernel_rfl) Try.func3
    (ChangeSpec.witness6 (enc := enc) (C := Try.checked) false ⟨#[], #[.int .i64 0, .int .u64 0], []⟩ 8 (by kernel_rfl) (by kernel_rfl) (by kernel_rfl) (by kernel_rfl)) ?_
  intro W base args ds gs before hval0 hW hcnd _
  have hval : ∀ (j : Nat) t v, Try.f3.params[j]? = some t → args[j]? = some v → Value.okWide Try.prog W .any base t v := hval0
  have hW' := hW
  obtain ⟨p, q, hA0, hV, rfl, hfz, hnd⟩ := hW
  have hA : DataW.TrodAll enc Try.prog W 0 (fun _ => true) true Try.f3.params.toList args.toList ds p := hA0
  rw [Try.params3] at hA hval
  obtain ⟨v0, vs0, d0, ds0, p0, q0, hargs, rfl, rfl, h0, r0⟩ := trodAll_cons hA
  obtain ⟨v1, vs1, d1, ds1, p1, q1, rfl, rfl, rfl, h1, r1⟩ := trodAll_cons r0
  obtain ⟨rfl, rfl, rfl⟩ := trodAll_nil r1
  obtain rfl : args = #[v0, v1] := by cases args; simp_all
  obtain ⟨rfl, rfl⟩ := trodVars_none hV
  obtain ⟨a0, rfl, rfl, rfl, w0⟩ := open_int Try.underlying3 (hval 0 3 v0 rfl rfl) h0
  obtain ⟨a1, rfl, rfl, rfl, w1⟩ := open_int Try.underlying22 (hval 1 22 v1 rfl rfl) h1
  clear hA0 hval0
  simp only [List.append_nil] at hW'
  refine (walk a0 a1 w0 w1 W).mono fun e W' ⟨he, hg⟩ => ?_
  subst he
  exact ⟨_, rfl, _, _, _, [], [], [], hW', (trodAll_cons_mk (shut_bool Try.underlying4 _) trodAll_mk0), (trodAll_cons_mk (shut_int Try.underlying3 w0) (trodAll_cons_mk (shut_int Try.underlying22 w1) trodAll_mk0)), rfl, hg.frame _, fun h => by cases h⟩

theorem over : Rows.fnColumnOfInvertsColumnNameRow.holds Try.pinned (OpenSpec.ofChange Rows.fnColumnOfInvertsColumnNameSpec) :=
  OpenClaim.holds_of_wide 3 Try.f3 rfl rfl rfl rfl rfl rfl rfl ⟨rfl, rfl, rfl, rfl, rfl⟩ rfl rfl rfl rfl rfl (by kernel_rfl) Try.func3 (by kernel_rfl)
    (of_decide_eq_true (by kernel_rfl)) (by unfold Func.isWrapper; first | (rw [if_pos (by decide +kernel)]; kernel_rfl) | (rw [if_neg (by decide +kernel)]; exact ⟨rfl, rfl⟩))
    (fun os started H enc _ => lifted os started H enc)

/-- ████ THE STATEMENT ████ -/
theorem proved : Rows.FnColumnOfInvertsColumnNameSaid :=
  over
#print axioms proved
end Go.Proofs.Qxb6001096a.fnColumnOfInvertsColumnName
