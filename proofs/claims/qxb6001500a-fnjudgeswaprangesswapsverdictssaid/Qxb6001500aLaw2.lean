/-
  The proof of 'Rows.FnJudgeSwapRangesSwapsVerdictsSaid', on the kit's shell.
-/
import Derived.Test.Qxb6001500aRows
import Derived.WalkKit
import Derived.ProofKit
import Derived.OpenShut
import Derived.Test.Qxb6001500aSmall
import Derived.ShutString
namespace Go.Proofs.Qxb6001500a.fnJudgeSwapRangesSwapsVerdicts
open Go.ChangeShapes Go.WideShapes Go.ChangeAt Go.RowKit
open Go.ChangeMaps (open_string shut_string)
set_option linter.unusedVariables false      -- a walk need not use every 'w<i>' (that an integer argument fits its kind)

theorem own : ownKnob Try.prog.godebug = none := by kernel_rfl

/-! ### STEP 1: THE WALK: the Go text returns true. -/
theorem sz_small (l h : Int) (h1 : -536870912 ≤ l) (h2 : l ≤ 536870912) (h3 : -536870912 ≤ h) (h4 : h ≤ 536870912) : sz l h = h - l + 1 := by
  unfold sz wrap64
  omega

theorem swapped (al ah bl bh c : Int) (h0 : -536870912 ≤ al) (h1 : al ≤ 536870912) (h2 : -536870912 ≤ ah) (h3 : ah ≤ 536870912) (h4 : -536870912 ≤ bl) (h5 : bl ≤ 536870912) (h6 : -536870912 ≤ bh) (h7 : bh ≤ 536870912) :
    (judge al ah bl bh c = 4 ∧ judge bl bh al ah c = 4) ∨ (judge al ah bl bh c = 2 ∧ judge bl bh al ah c = 2 ∧ inB al ah c = true ∧ inB bl bh c = true ∧ ah - al = bh - bl) ∨
    (judge al ah bl bh c = 2 ∧ judge bl bh al ah c = 3) ∨ (judge al ah bl bh c = 3 ∧ judge bl bh al ah c = 2) := by
  unfold judge
  rw [sz_small al ah h0 h1 h2 h3, sz_small bl bh h4 h5 h6 h7]
  cases inB al ah c <;> cases inB bl bh c <;> simp
  omega

set_option maxHeartbeats 1000000 in
theorem walk (a0 : Int) (a1 : Int) (a2 : Int) (a3 : Int) (a4 : Int) (w0 : (Lit.int .i64 a0).wf = true) (w1 : (Lit.int .i64 a1).wf = true) (w2 : (Lit.int .i64 a2).wf = true) (w3 : (Lit.int .i64 a3).wf = true) (w4 : (Lit.int .i64 a4).wf = true) (w : World) :
    Calls Try.prog 5 #[.int .i64 a0, .int .i64 a1, .int .i64 a2, .int .i64 a3, .int .i64 a4] w fun e w' => e = .returned (.bool true) ∧ Below w.heap.size w w' := by
  clear w0 w1 w2 w3 w4
  have hbw : Hid (Below w.heap.size w ((w.alloc (.cells #[.int .i64 a0, .int .i64 a1] 23)).alloc (.cells #[.int .i64 a2, .int .i64 a3] 23))) := ((Below.refl _ _).alloc (Nat.le_refl _) _).alloc (by simp) _
  go_enter Try.func5, Try.ntmps5
  go_wp2_with fail
  refine (out_any a0 _).mono ?_
  rintro e wo ⟨rfl, rfl⟩
  obtain ⟨b0, g0⟩ : ∃ b, outB a0 = b := ⟨_, rfl⟩
  rw [g0]
  have G0 : Hid _ := g0
  clear g0
  cases b0 with
  | true =>
    go_wp2_with fail
    go_ret
    exact ⟨rfl, Below.refl _ _⟩
  | false =>
  obtain ⟨l0, u0x⟩ := outB_false G0.out
  clear G0
  go_wp2_with fail
  refine (out_any a1 _).mono ?_
  rintro e wo ⟨rfl, rfl⟩
  obtain ⟨b1, g1⟩ : ∃ b, outB a1 = b := ⟨_, rfl⟩
  rw [g1]
  have G1 : Hid _ := g1
  clear g1
  cases b1 with
  | true =>
    go_wp2_with fail
    go_ret
    exact ⟨rfl, Below.refl _ _⟩
  | false =>
  obtain ⟨l1, u1x⟩ := outB_false G1.out
  clear G1
  go_wp2_with fail
  refine (out_any a2 _).mono ?_
  rintro e wo ⟨rfl, rfl⟩
  obtain ⟨b2, g2⟩ : ∃ b, outB a2 = b := ⟨_, rfl⟩
  rw [g2]
  have G2 : Hid _ := g2
  clear g2
  cases b2 with
  | true =>
    go_wp2_with fail
    go_ret
    exact ⟨rfl, Below.refl _ _⟩
  | false =>
  obtain ⟨l2, u2x⟩ := outB_false G2.out
  clear G2
  go_wp2_with fail
  refine (out_any a3 _).mono ?_
  rintro e wo ⟨rfl, rfl⟩
  obtain ⟨b3, g3⟩ : ∃ b, outB a3 = b := ⟨_, rfl⟩
  rw [g3]
  have G3 : Hid _ := g3
  clear g3
  cases b3 with
  | true =>
    go_wp2_with fail
    go_ret
    exact ⟨rfl, Below.refl _ _⟩
  | false =>
  obtain ⟨l3, u3x⟩ := outB_false G3.out
  clear G3
  have HV : Hid _ := swapped a0 a1 a2 a3 a4 l0 u0x l1 u1x l2 u2x l3 u3x
  go_wp2_with fail
  refine (judge_any a0 a1 a2 a3 a4 _).mono ?_
  rintro e wj ⟨rfl, hb⟩
  have hz : w.heap.size + 1 + 1 ≤ wj.heap.size := by have := hb.size; simp at this; omega
  have hb' := hbw.out.trans (hb.mono (by simp; omega))
  have hc := bcell hb
  clear hb hbw
  go_wp2_with fail
  refine (judge_any a2 a3 a0 a1 a4 _).mono ?_
  rintro e wk ⟨rfl, hb⟩
  have HB : Hid (Below w.heap.size w wk) := hb'.trans (hb.mono (by omega))
  clear hb hb' hc hz
  generalize judge a0 a1 a2 a3 a4 = J1 at *
  generalize judge a2 a3 a0 a1 a4 = J2 at *
  rcases HV.out with ⟨rfl, rfl⟩ | ⟨rfl, rfl, hN, hE, hd⟩ | ⟨rfl, rfl⟩ | ⟨rfl, rfl⟩
  · clear HV
    go_wp2_with fail
    go_ret
    exact ⟨rfl, HB.out⟩
  · have HN : Hid _ := hN
    have HE : Hid _ := hE
    have hdd : (a1 - a0 == a3 - a2) = true := by simp [hd]
    clear HV hN hE hd
    go_wp2_with fail
    refine (inRange_any a0 a1 a4 _).mono ?_
    rintro e wo ⟨rfl, rfl⟩
    rw [HN.out]
    go_wp2_with fail
    refine (inRange_any a2 a3 a4 _).mono ?_
    rintro e wo ⟨rfl, rfl⟩
    rw [HE.out]
    go_wp2_with fail
    go_ret
    exact ⟨rfl, HB.out⟩
  · clear HV
    go_wp2_with fail
    go_ret
    exact ⟨rfl, HB.out⟩
  · clear HV
    go_wp2_with fail
    go_ret
    exact ⟨rfl, HB.out⟩

/-! ### THE ROW's STEP: WRITTEN OUT: LEAVE IT -/
set_option maxRecDepth 100000 in
theorem lifted (os : Os) (started : os.Started) (H : Type) (enc : TypeId × Value → H) :
    ReturnsInHanded {} Try.checked os 5 .any (Rows.fnJudgeSwapRangesSwapsVerdictsSpec.pre6 enc Try.prog Try.f5 Rows.fnJudgeSwapRangesSwapsVerdictsRow.domain false) (Rows.fnJudgeSwapRangesSwapsVerdictsSpec.post enc Try.prog Try.f5 false true false false) := by
  refine returnsInHanded_of_change (C := Try.checked) own started (by kernel_rfl) Try.func5
    (ChangeSpec.witness6 (enc := enc) (C := Try.checked) false ⟨#[], #[.int .i64 0, .int .i64 0, .int .i64 0, .int .i64 0, .int .i64 0], []⟩ 8 (by kernel_rfl) (by kernel_rfl) (by kernel_rfl) (by kernel_rfl)) ?_
  intro W base args ds gs before hval0 hW hcnd _
  have hval : ∀ (j : Nat) t v, Try.f5.params[j]? = some t → args[j]? = some v → Value.okWide Try.prog W .any base t v := hval0
  have hW' := hW
  obtain ⟨p, q, hA0, hV, rfl, hfz, hnd⟩ := hW
  have hA : DataW.TrodAll enc Try.prog W 0 (fun _ => true) true Try.f5.params.toList args.toList ds p := hA0
  rw [Try.params5] at hA hval
  obtain ⟨v0, vs0, d0, ds0, p0, q0, hargs, rfl, rfl, h0, r0⟩ := trodAll_cons hA
  obtain ⟨v1, vs1, d1, ds1, p1, q1, rfl, rfl, rfl, h1, r1⟩ := trodAll_cons r0
  obtain ⟨v2, vs2, d2, ds2, p2, q2, rfl, rfl, rfl, h2, r2⟩ := trodAll_cons r1
  obtain ⟨v3, vs3, d3, ds3, p3, q3, rfl, rfl, rfl, h3, r3⟩ := trodAll_cons r2
  obtain ⟨v4, vs4, d4, ds4, p4, q4, rfl, rfl, rfl, h4, r4⟩ := trodAll_cons r3
  obtain ⟨rfl, rfl, rfl⟩ := trodAll_nil r4
  obtain rfl : args = #[v0, v1, v2, v3, v4] := by cases args; simp_all
  obtain ⟨rfl, rfl⟩ := trodVars_none hV
  obtain ⟨a0, rfl, rfl, rfl, w0⟩ := open_int Try.underlying3 (hval 0 3 v0 rfl rfl) h0
  obtain ⟨a1, rfl, rfl, rfl, w1⟩ := open_int Try.underlying3 (hval 1 3 v1 rfl rfl) h1
  obtain ⟨a2, rfl, rfl, rfl, w2⟩ := open_int Try.underlying3 (hval 2 3 v2 rfl rfl) h2
  obtain ⟨a3, rfl, rfl, rfl, w3⟩ := open_int Try.underlying3 (hval 3 3 v3 rfl rfl) h3
  obtain ⟨a4, rfl, rfl, rfl, w4⟩ := open_int Try.underlying3 (hval 4 3 v4 rfl rfl) h4
  clear hA0 hval0
  simp only [List.append_nil] at hW'
  refine (walk a0 a1 a2 a3 a4 w0 w1 w2 w3 w4 W).mono fun e W' ⟨he, hg⟩ => ?_
  subst he
  exact ⟨_, rfl, _, _, _, [], [], [], hW', (trodAll_cons_mk (shut_bool Try.underlying4 _) trodAll_mk0), (trodAll_cons_mk (shut_int Try.underlying3 w0) (trodAll_cons_mk (shut_int Try.underlying3 w1) (trodAll_cons_mk (shut_int Try.underlying3 w2) (trodAll_cons_mk (shut_int Try.underlying3 w3) (trodAll_cons_mk (shut_int Try.underlying3 w4) trodAll_mk0))))), rfl, hg.frame _, fun h => by cases h⟩

theorem over : Rows.fnJudgeSwapRangesSwapsVerdictsRow.holds Try.pinned (OpenSpec.ofChange Rows.fnJudgeSwapRangesSwapsVerdictsSpec) :=
  OpenClaim.holds_of_wide 5 Try.f5 rfl rfl rfl rfl rfl rfl rfl ⟨rfl, rfl, rfl, rfl, rfl⟩ rfl rfl rfl rfl rfl (by kernel_rfl) Try.func5 (by kernel_rfl)
    (of_decide_eq_true (by kernel_rfl)) (by unfold Func.isWrapper; first | (rw [if_pos (by decide +kernel)]; kernel_rfl) | (rw [if_neg (by decide +kernel)]; exact ⟨rfl, rfl⟩))
    (fun os started H enc _ => lifted os started H enc)

/-- ████ THE STATEMENT ████ -/
theorem proved : Rows.FnJudgeSwapRangesSwapsVerdictsSaid :=
  over
#print axioms proved
end Go.Proofs.Qxb6001500a.fnJudgeSwapRangesSwapsVerdicts
