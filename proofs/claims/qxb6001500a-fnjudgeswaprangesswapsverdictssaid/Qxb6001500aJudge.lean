import Derived.Test.Qxb6001500aRows
import Derived.WalkKit
import Derived.ProofKit
import Derived.BigQuiet
import Derived.Deep.QuietTactic
import Derived.Deep.DeepCutAuto
import Derived.Deep.RegionWith
namespace Go.Proofs.Qxb6001500a
open Go.RowKit

/-- Is the code in the range? -/
def inB (l h c : Int) : Bool := decide (l ≤ c) && decide (c ≤ h)
/-- The size of a range, as Go reckons it. -/
def sz (l h : Int) : Int := wrap64 (wrap64 (h - l) + 1)
/-- The verdict. -/
def judge (nl nh el eh c : Int) : Int :=
  if inB nl nh c = true ∧ inB el eh c = true ∧ sz el eh < sz nl nh then 3 else if inB nl nh c = true then 2 else if inB el eh c = true then 3 else 4

theorem holds_any (l h c : Int) (w : World) : Calls Try.prog 9 #[.agg #[.int .i64 l, .int .i64 h], .int .i64 c] w fun e w' => e = .returned (.bool (inB l h c)) ∧ Below w.heap.size w w' := by
  by_cases a : l ≤ c
  · have e : Hid (inB l h c = decide (c ≤ h)) := by simp [Hid, inB, a]
    go_enter Try.func9, Try.ntmps9
    go_wp2
    go_ret
    exact ⟨by rw [e.out]; rfl, (Below.refl _ _).alloc (Nat.le_refl _) _⟩
  · have e : Hid (inB l h c = false) := by simp [Hid, inB, a]
    go_enter Try.func9, Try.ntmps9
    go_wp2
    go_ret
    exact ⟨by rw [e.out]; rfl, (Below.refl _ _).alloc (Nat.le_refl _) _⟩
theorem size_any (l h : Int) (w : World) : Calls Try.prog 10 #[.agg #[.int .i64 l, .int .i64 h]] w fun e w' => e = .returned (.int .i64 (sz l h)) ∧ Below w.heap.size w w' := by
  go_enter Try.func10, Try.ntmps10
  go_wp2
  go_ret
  exact ⟨rfl, (Below.refl _ _).alloc (Nat.le_refl _) _⟩

/-- The two contracts, the frame carried on: what lay below B stands. -/
theorem holds_in (l h c : Int) (W : World) (B : Nat) (w : World) (hb : Below B W w) (hs : B ≤ w.heap.size) :
    Calls Try.prog 9 #[.agg #[.int .i64 l, .int .i64 h], .int .i64 c] w fun e w' => e = .returned (.bool (inB l h c)) ∧ Below B W w' ∧ B ≤ w'.heap.size := by
  refine (holds_any l h c w).mono ?_
  rintro e w' ⟨rfl, k⟩
  exact ⟨rfl, hb.trans (k.mono hs), Nat.le_trans hs k.size⟩
theorem size_in (l h : Int) (W : World) (B : Nat) (w : World) (hb : Below B W w) (hs : B ≤ w.heap.size) :
    Calls Try.prog 10 #[.agg #[.int .i64 l, .int .i64 h]] w fun e w' => e = .returned (.int .i64 (sz l h)) ∧ Below B W w' ∧ B ≤ w'.heap.size := by
  refine (size_any l h w).mono ?_
  rintro e w' ⟨rfl, k⟩
  exact ⟨rfl, hb.trans (k.mono hs), Nat.le_trans hs k.size⟩
theorem bcell {B : Nat} {W w1 : World} (hb : Below B W w1) : ∀ b o, b < B → w1.cell? ⟨b, o, none⟩ = W.cell? ⟨b, o, none⟩ :=
  fun b o h => hb.cell (p := ⟨b, o, none⟩) h

set_option maxHeartbeats 1000000 in
theorem judge_any (nl nh el eh c : Int) (w : World) :
    Calls Try.prog 6 #[.agg #[.int .i64 nl, .int .i64 nh, .int .i64 el, .int .i64 eh], .int .i64 c] w fun e w' => e = .returned (.int .i64 (judge nl nh el eh c)) ∧ Below w.heap.size w w' := by
  go_enter Try.func6, Try.ntmps6
  go_upto_region 1 with fail
  go_cut [5, 6] (fun a b wx => a = .bool (inB nl nh c) ∧ b = .bool (inB el eh c) ∧ Below (w.heap.size + 1) (w.alloc (.cells #[.int .i64 nl, .int .i64 nh, .int .i64 el, .int .i64 eh] 25)) wx ∧ w.heap.size + 1 ≤ wx.heap.size)
  case first =>
    have hb0 : Below (w.heap.size + 1) (w.alloc (.cells #[.int .i64 nl, .int .i64 nh, .int .i64 el, .int .i64 eh] 25)) (w.alloc (.cells #[.int .i64 nl, .int .i64 nh, .int .i64 el, .int .i64 eh] 25)).drew := (Below.refl _ _).drew
    have hs0 : w.heap.size + 1 ≤ (w.alloc (.cells #[.int .i64 nl, .int .i64 nh, .int .i64 el, .int .i64 eh] 25)).drew.heap.size := by simp
    go_region_with (go_at_call 9; refine (holds_in _ _ _ (w.alloc (.cells #[.int .i64 nl, .int .i64 nh, .int .i64 el, .int .i64 eh] 25)) (w.heap.size + 1) _ (by assumption) (by assumption)).mono ?_; rintro e w' ⟨rfl, hb, hs⟩; have hc := bcell hb)
    all_goals (go_wp2_with fail; go_meet; exact ⟨rfl, rfl, by assumption, by assumption⟩)
  case rest =>
    obtain ⟨rfl, rfl, hb, hs⟩ := hcut
    have hw0 : Hid (Below w.heap.size w (w.alloc (.cells #[.int .i64 nl, .int .i64 nh, .int .i64 el, .int .i64 eh] 25))) := (Below.refl _ _).alloc (Nat.le_refl _) _
    generalize hW : w.alloc (.cells #[.int .i64 nl, .int .i64 nh, .int .i64 el, .int .i64 eh] 25) = W at *
    have k0 : W.cell? ⟨w.heap.size, 0, none⟩ = some (.int .i64 nl) := by rw [← hW]; exact World.cell?_alloc_at _ _ _ _ rfl
    have k1 : W.cell? ⟨w.heap.size, 1, none⟩ = some (.int .i64 nh) := by rw [← hW]; exact World.cell?_alloc_at _ _ _ _ rfl
    have k2 : W.cell? ⟨w.heap.size, 2, none⟩ = some (.int .i64 el) := by rw [← hW]; exact World.cell?_alloc_at _ _ _ _ rfl
    have k3 : W.cell? ⟨w.heap.size, 3, none⟩ = some (.int .i64 eh) := by rw [← hW]; exact World.cell?_alloc_at _ _ _ _ rfl
    clear hW
    have HJ : Hid (∀ n e : Bool, inB nl nh c = n → inB el eh c = e → judge nl nh el eh c = if n = true ∧ e = true ∧ sz el eh < sz nl nh then 3 else if n = true then 2 else if e = true then 3 else 4) := by
      intro n e hn he
      rw [← hn, ← he]
      rfl
    obtain ⟨N, hN⟩ : ∃ n, inB nl nh c = n := ⟨_, rfl⟩
    obtain ⟨E, hE⟩ : ∃ n, inB el eh c = n := ⟨_, rfl⟩
    have hj := HJ.out N E hN hE
    rw [hN, hE]
    have Hj : Hid _ := hj
    clear hj HJ hN hE
    go_upto_region 2 with fail
    go_cut [15] (fun a wx => (∃ β : Bool, a = .bool β ∧ Hid (β = (N && E && decide (sz el eh < sz nl nh)))) ∧ Below (w.heap.size + 1) W wx ∧ w.heap.size + 1 ≤ wx.heap.size)
    case first =>
      have hb0 : Below (w.heap.size + 1) W wc.drew := hb.drew
      have hs0 : w.heap.size + 1 ≤ wc.drew.heap.size := hs
      have hc0 := bcell hb
      cases N with
      | false =>
        go_quiet (fail)
        go_wp2_with fail
        go_meet
        exact ⟨⟨_, rfl, rfl⟩, ⟨hb.os, hb.tape, hb.output, hb.size, hb.block⟩, hs⟩
      | true =>
        cases E with
        | false =>
          go_quiet (fail)
          go_wp2_with fail
          go_meet
          exact ⟨⟨_, rfl, rfl⟩, ⟨hb.os, hb.tape, hb.output, hb.size, hb.block⟩, hs⟩
        | true =>
          go_region_with (go_at_call 10; refine (size_in _ _ W (w.heap.size + 1) _ (by assumption) (by assumption)).mono ?_; rintro e w' ⟨rfl, hb, hs⟩; have hc := bcell hb)
          all_goals (go_wp2_with fail; go_meet; exact ⟨⟨_, rfl, rfl⟩, by assumption, by assumption⟩)
    case rest =>
      clear hb hs k0 k1 k2 k3
      obtain ⟨⟨β, rfl, hβ⟩, hb, hs⟩ := hcut
      have HB : Hid _ := hw0.out.trans (hb.mono (by omega))
      clear hb hs hw0
      cases N with
      | false =>
        cases E with
        | false =>
          have hj : Hid (judge nl nh el eh c = 4) := by rw [Hid, Hj.out]; simp
          obtain rfl : β = false := by rw [hβ.out]; rfl
          clear Hj hβ
          go_wp2_with fail
          go_ret
          exact ⟨by rw [hj.out]; rfl, HB.out⟩
        | true =>
          have hj : Hid (judge nl nh el eh c = 3) := by rw [Hid, Hj.out]; simp
          obtain rfl : β = false := by rw [hβ.out]; rfl
          clear Hj hβ
          go_wp2_with fail
          go_ret
          exact ⟨by rw [hj.out]; rfl, HB.out⟩
      | true =>
        cases E with
        | false =>
          have hj : Hid (judge nl nh el eh c = 2) := by rw [Hid, Hj.out]; simp
          obtain rfl : β = false := by rw [hβ.out]; rfl
          clear Hj hβ
          go_wp2_with fail
          go_ret
          exact ⟨by rw [hj.out]; rfl, HB.out⟩
        | true =>
          by_cases hlt : sz el eh < sz nl nh
          · have hj : Hid (judge nl nh el eh c = 3) := by rw [Hid, Hj.out]; simp [hlt]
            obtain rfl : β = true := by rw [hβ.out]; simp [hlt]
            clear Hj hlt hβ
            go_wp2_with fail
            go_ret
            exact ⟨by rw [hj.out]; rfl, HB.out⟩
          · have hj : Hid (judge nl nh el eh c = 2) := by rw [Hid, Hj.out]; simp [hlt]
            obtain rfl : β = false := by rw [hβ.out]; simp [hlt]
            clear Hj hlt hβ
            go_wp2_with fail
            go_ret
            exact ⟨by rw [hj.out]; rfl, HB.out⟩
end Go.Proofs.Qxb6001500a
