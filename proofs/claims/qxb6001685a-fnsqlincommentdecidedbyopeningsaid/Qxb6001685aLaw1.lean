/-
  The proof of 'Rows.FnSqlInCommentDecidedByOpeningSaid', on the kit's shell.
-/
import Derived.Test.Qxb6001685aRows
import Derived.WalkKit
import Derived.ProofKit
import Derived.OpenShut
import Derived.Test.Qxb6001685aSql
import Derived.ShutString
namespace Go.Proofs.Qxb6001685a.fnSqlInCommentDecidedByOpening
open Go.ChangeShapes Go.WideShapes Go.ChangeAt Go.RowKit
open Go.ChangeMaps (open_string shut_string)
set_option linter.unusedVariables false      -- a walk need not use every 'w<i>' (that an integer argument fits its kind)

theorem own : ownKnob Try.prog.godebug = none := by kernel_rfl

/-! ### STEP 1: THE WALK: the Go text returns true. -/
theorem txt_ne : (txt 1).toList = (txt 2).toList → False := by
  rw [ByteArray.toList_eq, ByteArray.toList_eq]
  decide

/-- The bytes of the opening, and what they name. -/
theorem parted (s : ByteArray) (h : 3 ≤ s.size) :
    (((s[0].toNat : Int) == 47) = false ∧ k3 s = 0) ∨ (((s[0].toNat : Int) == 47) = true ∧ ((s[1].toNat : Int) == 42) = false ∧ k3 s = 0) ∨
    (((s[0].toNat : Int) == 47) = true ∧ ((s[1].toNat : Int) == 42) = true ∧ ((s[2].toNat : Int) == 33) = true ∧ k3 s = 1) ∨
    (((s[0].toNat : Int) == 47) = true ∧ ((s[1].toNat : Int) == 42) = true ∧ ((s[2].toNat : Int) == 33) = false ∧ ((s[2].toNat : Int) == 43) = true ∧ k3 s = 2) ∨
    (((s[0].toNat : Int) == 47) = true ∧ ((s[1].toNat : Int) == 42) = true ∧ ((s[2].toNat : Int) == 33) = false ∧ ((s[2].toNat : Int) == 43) = false ∧ k3 s = 0) := by
  have e := toList3 s h
  have hb : ∀ (b : UInt8) (n : Nat), n < 256 → (((b.toNat : Int) == (n : Int)) = true ↔ b = UInt8.ofNat n) := by
    intro b n hn
    rw [beq_iff_eq]
    constructor
    · intro hh
      apply UInt8.toNat_inj.1
      rw [UInt8.toNat_ofNat']
      omega
    · intro hh
      rw [hh, UInt8.toNat_ofNat']
      omega
  have h0 := hb s[0] 47 (by omega)
  have h1 := hb s[1] 42 (by omega)
  have h2 := hb s[2] 33 (by omega)
  have h4 := hb s[2] 43 (by omega)
  unfold k3
  rw [e]
  by_cases c0 : s[0] = 47
  · by_cases c1 : s[1] = 42
    · by_cases c2 : s[2] = 33
      · right; right; left
        exact ⟨h0.2 c0, h1.2 c1, h2.2 c2, by rw [if_pos ⟨h, by rw [c0, c1, c2]⟩]⟩
      · by_cases c3 : s[2] = 43
        · right; right; right; left
          refine ⟨h0.2 c0, h1.2 c1, Bool.eq_false_iff.2 fun x => c2 (h2.1 x), h4.2 c3, ?_⟩
          rw [if_neg (by simp [c2]), if_pos ⟨h, by rw [c0, c1, c3]⟩]
        · right; right; right; right
          refine ⟨h0.2 c0, h1.2 c1, Bool.eq_false_iff.2 fun x => c2 (h2.1 x), Bool.eq_false_iff.2 fun x => c3 (h4.1 x), ?_⟩
          rw [if_neg (by simp [c2]), if_neg (by simp [c3])]
    · right; left
      refine ⟨h0.2 c0, Bool.eq_false_iff.2 fun x => c1 (h1.1 x), ?_⟩
      rw [if_neg (by simp [c1]), if_neg (by simp [c1])]
  · left
    refine ⟨Bool.eq_false_iff.2 fun x => c0 (h0.1 x), ?_⟩
    rw [if_neg (by simp [c0]), if_neg (by simp [c0])]

set_option maxRecDepth 100000 in
set_option maxHeartbeats 1000000 in
theorem walk (a0 : ByteArray) (a1 : ByteArray) (w0 : a0.size ≤ maxLen) (w1 : a1.size ≤ maxLen) (w : World) :
    Calls Try.prog 5 #[.string a0, .string a1] w fun e w' => e = .returned (.bool true) ∧ Grown w w' := by
  unfold maxLen at w0 w1
  by_cases g0 : (1048576 : Int) < (a0.size : Int)
  · go_enter Try.func5, Try.ntmps5
    go_wp2
    go_ret
    exact ⟨rfl, Grown.refl _⟩
  by_cases g1 : (1048576 : Int) < (a1.size : Int)
  · go_enter Try.func5, Try.ntmps5
    go_wp2
    go_ret
    exact ⟨rfl, Grown.refl _⟩
  by_cases g2 : (1048576 : Int) < (a0.size : Int) + (a1.size : Int)
  · go_enter Try.func5, Try.ntmps5
    go_wp2
    go_ret
    exact ⟨rfl, Grown.refl _⟩
  have q1 : k3 ⟨#[47, 42, 33]⟩ = 1 := by rw [k3_list]; rfl
  have q2 : k3 ⟨#[47, 42, 43]⟩ = 2 := by rw [k3_list]; rfl
  have Q1 : Hid _ := q1
  have Q2 : Hid _ := q2
  clear q1 q2
  have n1 : ((txt 1).toList == (txt 2).toList) = false := by simpa using txt_ne
  have z1 : (txt 1).toList.isEmpty = false := by rw [ByteArray.toList_eq]; rfl
  have z2 : (txt 2).toList.isEmpty = false := by rw [ByteArray.toList_eq]; rfl
  have E0 : Hid (txt 0 = ⟨#[]⟩) := rfl
  by_cases h3 : (3 : Int) ≤ (a0.size : Int)
  · go_enter Try.func5, Try.ntmps5
    go_wp2_with (go_at_call 14; go_in)
    go_wp2_with fail
    refine (sql_any a0 _).mono ?_
    rintro e wx ⟨rfl, rfl⟩
    have C1 : Hid _ := k3_cut a0 (by omega)
    have C2 : Hid _ := k3_app a0 a1 (by omega)
    have hz : a0.size + a1.size ≤ 1048576 := by omega
    rcases parted a0 (by omega) with ⟨p0, hk⟩ | ⟨p0, p1, hk⟩ | ⟨p0, p1, p2, hk⟩ | ⟨p0, p1, p2, p3, hk⟩ | ⟨p0, p1, p2, p3, hk⟩
    · rw [hk, E0.out]
      have HK : Hid _ := hk
      clear hk
      go_wp2_with fail
      refine (sql_any _ _).mono ?_
      rintro e wx ⟨rfl, rfl⟩
      rw [C1.out, HK.out, E0.out]
      go_wp2_with fail
      refine (sql_any _ _).mono ?_
      rintro e wx ⟨rfl, rfl⟩
      rw [C2.out, HK.out, E0.out]
      go_wp2_with fail
      refine (sql_any _ _).mono ?_
      rintro e wx ⟨rfl, rfl⟩
      rw [Q1.out]
      go_wp2_with fail
      refine (sql_any _ _).mono ?_
      rintro e wx ⟨rfl, rfl⟩
      rw [Q2.out]
      go_wp2_with fail
      go_ret
      exact ⟨rfl, Grown.refl _⟩
    · rw [hk, E0.out]
      have HK : Hid _ := hk
      clear hk
      go_wp2_with fail
      refine (sql_any _ _).mono ?_
      rintro e wx ⟨rfl, rfl⟩
      rw [C1.out, HK.out, E0.out]
      go_wp2_with fail
      refine (sql_any _ _).mono ?_
      rintro e wx ⟨rfl, rfl⟩
      rw [C2.out, HK.out, E0.out]
      go_wp2_with fail
      refine (sql_any _ _).mono ?_
      rintro e wx ⟨rfl, rfl⟩
      rw [Q1.out]
      go_wp2_with fail
      refine (sql_any _ _).mono ?_
      rintro e wx ⟨rfl, rfl⟩
      rw [Q2.out]
      go_wp2_with fail
      go_ret
      exact ⟨rfl, Grown.refl _⟩
    · rw [hk]
      have HK : Hid _ := hk
      clear hk
      go_wp2_with fail
      refine (sql_any _ _).mono ?_
      rintro e wx ⟨rfl, rfl⟩
      rw [C1.out, HK.out]
      go_wp2_with fail
      refine (sql_any _ _).mono ?_
      rintro e wx ⟨rfl, rfl⟩
      rw [C2.out, HK.out]
      go_wp2_with fail
      refine (sql_any _ _).mono ?_
      rintro e wx ⟨rfl, rfl⟩
      rw [Q1.out]
      go_wp2_with fail
      refine (sql_any _ _).mono ?_
      rintro e wx ⟨rfl, rfl⟩
      rw [Q2.out]
      go_wp2_with fail
      go_ret
      exact ⟨rfl, Grown.refl _⟩
    · rw [hk]
      have HK : Hid _ := hk
      clear hk
      go_wp2_with fail
      refine (sql_any _ _).mono ?_
      rintro e wx ⟨rfl, rfl⟩
      rw [C1.out, HK.out]
      go_wp2_with fail
      refine (sql_any _ _).mono ?_
      rintro e wx ⟨rfl, rfl⟩
      rw [C2.out, HK.out]
      go_wp2_with fail
      refine (sql_any _ _).mono ?_
      rintro e wx ⟨rfl, rfl⟩
      rw [Q1.out]
      go_wp2_with fail
      refine (sql_any _ _).mono ?_
      rintro e wx ⟨rfl, rfl⟩
      rw [Q2.out]
      go_wp2_with fail
      go_ret
      exact ⟨rfl, Grown.refl _⟩
    · rw [hk, E0.out]
      have HK : Hid _ := hk
      clear hk
      go_wp2_with fail
      refine (sql_any _ _).mono ?_
      rintro e wx ⟨rfl, rfl⟩
      rw [C1.out, HK.out, E0.out]
      go_wp2_with fail
      refine (sql_any _ _).mono ?_
      rintro e wx ⟨rfl, rfl⟩
      rw [C2.out, HK.out, E0.out]
      go_wp2_with fail
      refine (sql_any _ _).mono ?_
      rintro e wx ⟨rfl, rfl⟩
      rw [Q1.out]
      go_wp2_with fail
      refine (sql_any _ _).mono ?_
      rintro e wx ⟨rfl, rfl⟩
      rw [Q2.out]
      go_wp2_with fail
      go_ret
      exact ⟨rfl, Grown.refl _⟩
  · go_enter Try.func5, Try.ntmps5
    go_wp2_with (go_at_call 14; go_in)
    go_wp2_with fail
    refine (sql_any a0 _).mono ?_
    rintro e wx ⟨rfl, rfl⟩
    have hk : k3 a0 = 0 := by rw [k3, if_neg (fun h => by omega), if_neg (fun h => by omega)]
    rw [hk, E0.out]
    clear hk
    go_wp2_with fail
    refine (sql_any _ _).mono ?_
    rintro e wx ⟨rfl, rfl⟩
    rw [Q1.out]
    go_wp2_with fail
    refine (sql_any _ _).mono ?_
    rintro e wx ⟨rfl, rfl⟩
    rw [Q2.out]
    go_wp2_with fail
    go_ret
    exact ⟨rfl, Grown.refl _⟩

/-! ### THE ROW's STEP: WRITTEN OUT: LEAVE IT -/
set_option maxRecDepth 100000 in
theorem lifted (os : Os) (started : os.Started) (H : Type) (enc : TypeId × Value → H) :
    ReturnsInHanded {} Try.checked os 5 .any (Rows.fnSqlInCommentDecidedByOpeningSpec.pre6 enc Try.prog Try.f5 Rows.fnSqlInCommentDecidedByOpeningRow.domain false) (Rows.fnSqlInCommentDecidedByOpeningSpec.post enc Try.prog Try.f5 false true false false) := by
  refine returnsInHanded_of_change (C := Try.checked) own started (by kernel_rfl) Try.func5
    (ChangeSpec.witness6 (enc := enc) (C := Try.checked) false ⟨#[], #[.string ByteArray.empty, .string ByteArray.empty], []⟩ 8 (by kernel_rfl) (by kernel_rfl) (by kernel_rfl) (by kernel_rfl)) ?_
  intro W base args ds gs before hval0 hW hcnd _
  have hval : ∀ (j : Nat) t v, Try.f5.params[j]? = some t → args[j]? = some v → Value.okWide Try.prog W .any base t v := hval0
  have hW' := hW
  obtain ⟨p, q, hA0, hV, rfl, hfz, hnd⟩ := hW
  have hA : DataW.TrodAll enc Try.prog W 0 (fun _ => true) true Try.f5.params.toList args.toList ds p := hA0
  rw [Try.params5] at hA hval
  obtain ⟨v0, vs0, d0, ds0, p0, q0, hargs, rfl, rfl, h0, r0⟩ := trodAll_cons hA
  obtain ⟨v1, vs1, d1, ds1, p1, q1, rfl, rfl, rfl, h1, r1⟩ := trodAll_cons r0
  obtain ⟨rfl, rfl, rfl⟩ := trodAll_nil r1
  obtain rfl : args = #[v0, v1] := by cases args; simp_all
  obtain ⟨rfl, rfl⟩ := trodVars_none hV
  obtain ⟨a0, rfl, rfl, rfl, w0⟩ := open_string Try.underlying9 (hval 0 9 v0 rfl rfl) h0
  obtain ⟨a1, rfl, rfl, rfl, w1⟩ := open_string Try.underlying9 (hval 1 9 v1 rfl rfl) h1
  clear hA0 hval0
  simp only [List.append_nil] at hW'
  refine (walk a0 a1 w0 w1 W).mono fun e W' ⟨he, hg⟩ => ?_
  subst he
  exact ⟨_, rfl, post_of_same (pa := []) (pv := []) hW' (fun _ _ _ => (trodAll_cons_mk (shut_bool Try.underlying4 _) trodAll_mk0)) (fun sp _ => (trodAll_cons_mk (shut_string Try.underlying9 w0) (trodAll_cons_mk (shut_string Try.underlying9 w1) trodAll_mk0))) (fun _ _ => rfl) rfl
    (hg.frame _) hg.2.1 (ok_one (by kernel_rfl) rfl (okWide_bool_mk Try.underlying4 _))⟩

theorem over : Rows.fnSqlInCommentDecidedByOpeningRow.holds Try.pinned (OpenSpec.ofChange Rows.fnSqlInCommentDecidedByOpeningSpec) :=
  OpenClaim.holds_of_wide 5 Try.f5 rfl rfl rfl rfl rfl rfl rfl ⟨rfl, rfl, rfl, rfl, rfl⟩ rfl rfl rfl rfl rfl (by kernel_rfl) Try.func5 (by kernel_rfl)
    (of_decide_eq_true (by kernel_rfl)) (by unfold Func.isWrapper; first | (rw [if_pos (by decide +kernel)]; kernel_rfl) | (rw [if_neg (by decide +kernel)]; exact ⟨rfl, rfl⟩))
    (fun os started H enc _ => lifted os started H enc)

/-- ████ THE STATEMENT ████ -/
theorem proved : Rows.FnSqlInCommentDecidedByOpeningSaid :=
  over
#print axioms proved
end Go.Proofs.Qxb6001685a.fnSqlInCommentDecidedByOpening
