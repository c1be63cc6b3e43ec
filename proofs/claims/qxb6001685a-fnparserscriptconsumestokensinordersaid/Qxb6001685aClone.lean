import Derived.Test.Qxb6001685aAid
import Derived.Deep.OwnRows
import Derived.Lib.SliceRun
namespace Go.Proofs.Qxb6001685a
open Go.RowKit

theorem info5 : (Try.prog.info? 5).map (fun i => (i.zero, i.size, i.bytes)) = some (some (.int .u8 0), 1, 1) := by kernel_rfl
theorem info9 : (Try.prog.info? 9).map (fun i => (i.zero, i.size, i.bytes)) = some (some (.string ⟨#[]⟩), 1, 16) := by kernel_rfl

theorem row_new (w : World) (arr : Array Value) (t n : Nat) (V : Nat → Value) (h : ∀ i, i < n → arr[i]? = some (V i)) :
    Row (w.alloc (.cells arr t)) (some ⟨w.heap.size, 0, none⟩) n V := by
  refine Or.inr ⟨_, 0, rfl, by simp, fun i hi => ?_⟩
  rw [World.cell?_alloc_at _ _ _ _ rfl]
  simpa using h i hi

theorem set_step (arr : Array Value) (n k : Nat) (V : Nat → Value) (v : Value) (hs : arr.size = n) (hk : k < n) (hv : v = V k) (h : ∀ i, i < k → arr[i]? = some (V i)) :
    ∀ i, i < k + 1 → (arr.setIfInBounds k v)[i]? = some (V i) := by
  intro i hi
  rw [Array.getElem?_setIfInBounds]
  by_cases e : k = i
  · subst e
    simp [hs, hk, hv]
  · rw [if_neg e]
    exact h i (by omega)

set_option maxHeartbeats 400000 in
theorem cloneBytes_any (a : Option Addr) (n c : Nat) (I : Nat → Int) (w : World) (hn : n ≤ 65536) (h : Row w a n (bytes I)) :
    Calls Try.prog 18 #[.slice a n c] w fun e w' => (∃ a' c', e = .returned (.slice a' n c') ∧ Row w' a' n (bytes I)) ∧ Below w.heap.size w w' := by
  have qT : ∀ (w : World) (a : Option Addr) (n c n' c' : Nat), (binOp .eql 29 (.slice a n c) (.slice none n' c')).run Try.prog w = .ok (.bool a.isNone) w := fun w a n c n' c' => Lib.run_eql_slice_nil w _ _ a n c n' c' Try.underlying29
  have hmk := run_make_row' (P := Try.prog) 29 5 (.int .u8 0) 1 Try.underlying29 info5 rfl .i64 .i64 n (by omega) (by omega)
  cases a with
  | none =>
    have hn0 : n = 0 := by
      rcases h with h | ⟨b, off, he, _⟩
      · exact h.out
      · cases he
    subst hn0
    go_enter Try.func18, Try.ntmps18
    go_wp2
    go_ret
    exact ⟨⟨none, 0, rfl, Or.inl rfl⟩, Below.refl _ _⟩
  | some x =>
    rcases h with h0 | ⟨b, off, he, hlt, hc⟩
    all_goals
      try cases he
      go_enter Try.func18, Try.ntmps18
      go_wp2
      go_loopw [4] (fun i wr => ∃ (k : Nat) (arr : Array Value), k ≤ n ∧ arr.size = n ∧ Hid (∀ i, i < k → arr[i]? = some (bytes I i)) ∧ i = .int .i64 k ∧ wr = w.alloc (.cells arr 5)) (fun i _ => n - (intOf i).toNat)
      case atStart => exact ⟨0, _, Nat.zero_le _, size_madeCells _ _, fun i hi => absurd hi (Nat.not_lt_zero _), rfl, rfl⟩
      case round =>
        obtain ⟨k, arr, hk, hs, HA, rfl, rfl⟩ := hrel
        by_cases hkn : k < n
        · first
          | (exfalso; have := h0.out; omega)
          | (have hcx : w.cell? ⟨b, off + k, none⟩ = some (.int .u8 (I k)) := hc k hkn
             obtain ⟨v, hv⟩ : ∃ v, arr[k]? = some v := ⟨arr[k], by simp⟩
             have HN : Hid (∀ i, i < k + 1 → (arr.setIfInBounds k (.int .u8 (I k)))[i]? = some (bytes I i)) := set_step arr n k _ _ hs hkn rfl HA.out
             clear hc HA
             go_wp2
             go_roundw
             case rel => exact ⟨k + 1, _, by omega, by simpa using hs, HN, by go_num, rfl⟩
             case measure => simp [intOf]; omega)
        · have hke : k = n := by omega
          subst hke
          have HR : Hid (Row (w.alloc (.cells arr 5)) (some ⟨w.heap.size, 0, none⟩) k (bytes I)) := row_new w arr 5 k _ HA.out
          clear HA
          go_wp2
          go_ret
          exact ⟨⟨_, _, rfl, HR.out⟩, (Below.refl _ _).alloc (Nat.le_refl _) _⟩

set_option maxHeartbeats 400000 in
theorem cloneStrings_any (a : Option Addr) (n c : Nat) (S : Nat → ByteArray) (w : World) (hn : n ≤ 65536) (h : Row w a n (strs S)) :
    Calls Try.prog 19 #[.slice a n c] w fun e w' => (∃ a' c', e = .returned (.slice a' n c') ∧ Row w' a' n (strs S)) ∧ Below w.heap.size w w' := by
  have qT : ∀ (w : World) (a : Option Addr) (n c n' c' : Nat), (binOp .eql 30 (.slice a n c) (.slice none n' c')).run Try.prog w = .ok (.bool a.isNone) w := fun w a n c n' c' => Lib.run_eql_slice_nil w _ _ a n c n' c' Try.underlying30
  have hmk := run_make_row' (P := Try.prog) 30 9 (.string ⟨#[]⟩) 16 Try.underlying30 info9 rfl .i64 .i64 n (by omega) (by omega)
  cases a with
  | none =>
    have hn0 : n = 0 := by
      rcases h with h | ⟨b, off, he, _⟩
      · exact h.out
      · cases he
    subst hn0
    go_enter Try.func19, Try.ntmps19
    go_wp2
    go_ret
    exact ⟨⟨none, 0, rfl, Or.inl rfl⟩, Below.refl _ _⟩
  | some x =>
    rcases h with h0 | ⟨b, off, he, hlt, hc⟩
    all_goals
      try cases he
      go_enter Try.func19, Try.ntmps19
      go_wp2
      go_loopw [4] (fun i wr => ∃ (k : Nat) (arr : Array Value), k ≤ n ∧ arr.size = n ∧ Hid (∀ i, i < k → arr[i]? = some (strs S i)) ∧ i = .int .i64 k ∧ wr = w.alloc (.cells arr 9)) (fun i _ => n - (intOf i).toNat)
      case atStart => exact ⟨0, _, Nat.zero_le _, size_madeCells _ _, fun i hi => absurd hi (Nat.not_lt_zero _), rfl, rfl⟩
      case round =>
        obtain ⟨k, arr, hk, hs, HA, rfl, rfl⟩ := hrel
        by_cases hkn : k < n
        · first
          | (exfalso; have := h0.out; omega)
          | (have hcx : w.cell? ⟨b, off + k, none⟩ = some (.string (S k)) := hc k hkn
             obtain ⟨v, hv⟩ : ∃ v, arr[k]? = some v := ⟨arr[k], by simp⟩
             have HN : Hid (∀ i, i < k + 1 → (arr.setIfInBounds k (.string (S k)))[i]? = some (strs S i)) := set_step arr n k _ _ hs hkn rfl HA.out
             clear hc HA
             go_wp2
             go_roundw
             case rel => exact ⟨k + 1, _, by omega, by simpa using hs, HN, by go_num, rfl⟩
             case measure => simp [intOf]; omega)
        · have hke : k = n := by omega
          subst hke
          have HR : Hid (Row (w.alloc (.cells arr 9)) (some ⟨w.heap.size, 0, none⟩) k (strs S)) := row_new w arr 9 k _ HA.out
          clear HA
          go_wp2
          go_ret
          exact ⟨⟨_, _, rfl, HR.out⟩, (Below.refl _ _).alloc (Nat.le_refl _) _⟩
end Go.Proofs.Qxb6001685a
