/-
  The proof of 'Rows.FnColumnOfAcceptsOnlyLettersThenDigitsSaid', on the kit's shell.
-/
import Derived.Test.Qxb6001096aRows
import Derived.WalkKit
import Derived.WalkSpells
import Derived.Lib.Strings
import Derived.ProofKit
import Derived.OpenShut
import Derived.ShutString
import Derived.Test.Qxb6001096aNames
import Derived.Test.Qxb6001096aColOf
namespace Go.Proofs.Qxb6001096a.fnColumnOfAcceptsOnlyLettersThenDigits
open Go.ChangeShapes Go.WideShapes Go.ChangeAt Go.RowKit
open Go.ChangeMaps (open_string shut_string)
set_option linter.unusedVariables false      -- a walk need not use every 'w<i>' (that an integer argument fits its kind)

theorem own : ownKnob Try.prog.godebug = none := by kernel_rfl

/-! ### STEP 1: THE WALK: the Go text returns true. -/
set_option maxRecDepth 100000 in
set_option maxHeartbeats 400000 in
theorem walk (a0 : ByteArray) (w0 : a0.size ≤ maxLen) (w : World) :
    Calls Try.prog 4 #[.string a0] w fun e w' => e = .returned (.bool true) ∧ Below w.heap.size w w' := by
  unfold maxLen at w0
  by_cases c0 : (1048576 : Int) < (a0.size : Int)
  · go_enter Try.func4, Try.ntmps4
    go_wp2
    go_ret
    exact ⟨rfl, Below.refl _ _⟩
  · go_enter Try.func4, Try.ntmps4
    go_wp2_with (go_at_call 8; go_in)
    go_wp2_with fail
    refine (zz_any a0 _ (by omega)).mono ?_
    rintro e w1 ⟨rfl, hb1⟩
    by_cases hm : Col.colOf a0.data.toList = -1
    · rw [hm]
      have h1 : ((-1 : Int) == -1) = true := by decide
      clear hm
      go_wp2_with fail
      go_ret
      exact ⟨rfl, hb1⟩
    · obtain ⟨c, hc, e1, e2, e3, e4⟩ := Col.law2 _ hm
      rw [e1]
      have h1 : ((c : Int) == -1) = false := beq_eq_false_iff_ne.2 (by omega)
      have hc1 : (c : Int) < 16384 := by omega
      have E2 : Hid _ := e2
      have E3 : Hid _ := e3
      have E4 : Hid _ := e4
      clear hm e1 e2 e3 e4
      go_wp2_with fail
      refine (name_any c _ (by omega)).mono ?_
      rintro e w2 ⟨rfl, hl, hb2⟩
      generalize Col.nm (c + 1) = L at *
      generalize Col.rest a0.data.toList = R at *
      have hsz : L.length + R.length = a0.size := by
        have := congrArg List.length E2.out
        simp at this
        omega
      have hRl : 0 < R.length := by
        rcases Nat.eq_zero_or_pos R.length with e | e
        · exact absurd (List.length_eq_zero_iff.1 e) E3.out
        · exact e
      have hlt : (L.length : Int) < (a0.size : Int) := by omega
      have hle0 : decide (a0.size ≤ L.length) = false := by simp; omega
      have hcmp : ((a0.extract 0 L.length).toList == L) = true := by
        rw [beq_iff_eq, Lib.toList_data, ByteArray.data_extract]
        simp [E2.out]
      have hb : Below w.heap.size w w2 := hb1.trans (hb2.mono hb1.size)
      clear E3 hc hc1 h1 hRl hb1 hb2
      go_wp2_with fail
      clear hcmp hle0
      have HZ : Hid (L.length + R.length = a0.size) := hsz
      clear hsz
      go_loop [5] (fun i => ∃ k : Nat, L.length ≤ k ∧ k ≤ a0.size ∧ i = .int .i64 k) (fun i => a0.size - (intOf i).toNat)
      case atStart => exact ⟨L.length, Nat.le_refl _, by omega, rfl⟩
      case round =>
        obtain ⟨k, hk1, hk2, rfl⟩ := hrel
        by_cases hk : k < a0.size
        · have hdg : Col.isDig a0[k] = true := by
            apply E4.out
            have e : a0[k] = a0.data.toList[k]'(by simpa using hk) := rfl
            rw [e]
            have h2 : ∀ (l : List UInt8) (h : k < l.length), l = L ++ R → l[k] ∈ R := by
              intro l h e
              subst e
              rw [List.getElem_append_right hk1]
              exact List.getElem_mem _
            exact h2 _ _ E2.out
          have hd : (48 : Int) ≤ (a0[k].toNat : Int) ∧ (a0[k].toNat : Int) ≤ 57 := by
            unfold Col.isDig at hdg
            simp at hdg
            omega
          obtain ⟨hd1, hd2⟩ := hd
          clear hdg
          go_wp2
          go_round
          case rel => exact ⟨k + 1, by omega, by omega, by go_num⟩
          case measure => simp [intOf]; omega
        · go_wp2
          go_ret
          exact ⟨rfl, hb⟩

/-! ### THE ROW's STEP: WRITTEN OUT: LEAVE IT -/
set_option maxRecDepth 100000 in
theorem lifted (os : Os) (started : os.Started) (H : Type) (enc : TypeId × Value → H) :
    ReturnsInHanded {} Try.checked os 4 .any (Rows.fnColumnOfAcceptsOnlyLettersThenDigitsSpec.pre6 enc Try.prog Try.f4 Rows.fnColumnOfAcceptsOnlyLettersThenDigitsRow.domain false) (Rows.fnColumnOfAcceptsOnlyLettersThenDigitsSpec.post enc Try.prog Try.f4 false true false false) := by
  refine returnsInHanded_of_change (C := Try.checked) own started (by kernel_rfl) Try.func4
    (ChangeSpec.witness6 (enc := enc) (C := Try.checked) false ⟨#[], #[.string ByteArray.empty], []⟩ 8 (by kernel_rfl) (by kernel_rfl) (by kernel_rfl) (by kernel_rfl)) ?_
  intro W base args ds gs before hval0 hW hcnd _
  have hval : ∀ (j : Nat) t v, Try.f4.params[j]? = some t → args[j]? = some v → Value.okWide Try.prog W .any base t v := hval0
  have hW' := hW
  obtain ⟨p, q, hA0, hV, rfl, hfz, hnd⟩ := hW
  have hA : DataW.TrodAll enc Try.prog W 0 (fun _ => true) true Try.f4.params.toList args.toList ds p := hA0
  rw [Try.params4] at hA hval
  obtain ⟨v0, vs0, d0, ds0, p0, q0, hargs, rfl, rfl, h0, r0⟩ := trodAll_cons hA
  obtain ⟨rfl, rfl, rfl⟩ := trodAll_nil r0
  obtain rfl : args = #[v0] := by cases args; simp_all
  obtain ⟨rfl, rfl⟩ := trodVars_none hV
  obtain ⟨a0, rfl, rfl, rfl, w0⟩ := open_string Try.underlying9 (hval 0 9 v0 rfl rfl) h0
  clear hA0 hval0
  simp only [List.append_nil] at hW'
  refine (walk a0 w0 W).mono fun e W' ⟨he, hg⟩ => ?_
  subst he
  exact ⟨_, rfl, _, _, _, [], [], [], hW', (trodAll_cons_mk (shut_bool Try.underlying4 _) trodAll_mk0), (trodAll_cons_mk (shut_string Try.underlying9 w0) trodAll_mk0), rfl, hg.frame _, fun h => by cases h⟩

theorem over : Rows.fnColumnOfAcceptsOnlyLettersThenDigitsRow.holds Try.pinned (OpenSpec.ofChange Rows.fnColumnOfAcceptsOnlyLettersThenDigitsSpec) :=
  OpenClaim.holds_of_wide 4 Try.f4 rfl rfl rfl rfl rfl rfl rfl ⟨rfl, rfl, rfl, rfl, rfl⟩ rfl rfl rfl rfl rfl (by kernel_rfl) Try.func4 (by kernel_rfl)
    (of_decide_eq_true (by kernel_rfl)) (by unfold Func.isWrapper; first | (rw [if_pos (by decide +kernel)]; kernel_rfl) | (rw [if_neg (by decide +kernel)]; exact ⟨rfl, rfl⟩))
    (fun os started H enc _ => lifted os started H enc)

/-- ████ THE STATEMENT ████ -/
theorem proved : Rows.FnColumnOfAcceptsOnlyLettersThenDigitsSaid :=
  over
#print axioms proved
end Go.Proofs.Qxb6001096a.fnColumnOfAcceptsOnlyLettersThenDigits
