import Derived.Test.Qxb6001500aJudge
namespace Go.Proofs.Qxb6001500a
open Go.RowKit

theorem inRange_any (l h c : Int) (w : World) : Calls Try.prog 7 #[.int .i64 l, .int .i64 h, .int .i64 c] w fun e w' => e = .returned (.bool (inB l h c)) ∧ w = w' := by
  by_cases a : l ≤ c
  · have e : Hid (inB l h c = decide (c ≤ h)) := by simp [Hid, inB, a]
    go_enter Try.func7, Try.ntmps7
    go_wp2
    go_ret
    exact ⟨by rw [e.out]; rfl, rfl⟩
  · have e : Hid (inB l h c = false) := by simp [Hid, inB, a]
    go_enter Try.func7, Try.ntmps7
    go_wp2
    go_ret
    exact ⟨by rw [e.out]; rfl, rfl⟩

/-- Is x beyond the law's own limit? -/
def outB (x : Int) : Bool := decide (x < -536870912) || decide (536870912 < x)
theorem outB_false {x : Int} (h : outB x = false) : -536870912 ≤ x ∧ x ≤ 536870912 := by
  unfold outB at h
  simp at h
  exact h

theorem out_any (x : Int) (w : World) : Calls Try.prog 8 #[.int .i64 x] w fun e w' => e = .returned (.bool (outB x)) ∧ w = w' := by
  by_cases a : x < -536870912
  · have e : Hid (outB x = true) := by simp [Hid, outB, a]
    go_enter Try.func8, Try.ntmps8
    go_wp2
    go_ret
    exact ⟨by rw [e.out]; rfl, rfl⟩
  · have e : Hid (outB x = decide (536870912 < x)) := by simp [Hid, outB, a]
    go_enter Try.func8, Try.ntmps8
    go_wp2
    go_ret
    exact ⟨by rw [e.out]; rfl, rfl⟩
end Go.Proofs.Qxb6001500a
