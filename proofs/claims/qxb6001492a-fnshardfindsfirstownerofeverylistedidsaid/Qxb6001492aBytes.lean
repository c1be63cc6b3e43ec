import Derived.Test.Qxb6001492aAid
namespace Go.Proofs.Qxb6001492a
open Go.RowKit

set_option maxHeartbeats 400000 in
theorem addLens_any (t : Int) (a : Option Addr) (n c : Nat) (S : Nat → ByteArray) (w : World) (hn : n ≤ 9223372036854775807) (h : Row w a n (strs S)) :
    Calls Try.prog 14 #[.int .i64 t, .slice a n c] w fun e w' => (∃ r : Int, e = .returned (.int .i64 r)) ∧ w = w' := by
  rcases h with h0 | ⟨b, off, rfl, hlt, hc⟩
  all_goals
    go_enter Try.func14, Try.ntmps14
    go_wp2
    go_loop [0, 5] (fun t i => ∃ (z : Int) (k : Nat), k ≤ n ∧ t = .int .i64 z ∧ i = .int .i64 k) (fun _ i => n - (intOf i).toNat)
    case atStart => exact ⟨_, 0, Nat.zero_le _, rfl, rfl⟩
    case round =>
      obtain ⟨z, k, hk, rfl, rfl⟩ := hrel
      by_cases hkn : k < n
      · first
        | (exfalso; have := h0.out; omega)
        | (have hcx : w.cell? ⟨b, off + k, none⟩ = some (.string (S k)) := hc k hkn
           clear hc
           go_wp2
           · go_ret
             exact ⟨⟨_, rfl⟩, rfl⟩
           · go_round
             case rel => exact ⟨_, k + 1, by omega, rfl, by go_num⟩
             case measure => simp [intOf]; omega)
      · go_wp2
        go_ret
        exact ⟨⟨_, rfl⟩, rfl⟩

set_option maxHeartbeats 400000 in
theorem bytes_any (a0 a1 a2 a3 : Option Addr) (n0 n1 n2 n3 c0 c1 c2 c3 : Nat) (S1 S2 S3 : Nat → ByteArray) (w : World) (hn1 : n1 ≤ 9223372036854775807) (hn2 : n2 ≤ 9223372036854775807) (hn3 : n3 ≤ 9223372036854775807)
    (h1 : Row w a1 n1 (strs S1)) (h2 : Row w a2 n2 (strs S2)) (h3 : Row w a3 n3 (strs S3)) :
    Calls Try.prog 7 #[.slice a0 n0 c0, .slice a1 n1 c1, .slice a2 n2 c2, .slice a3 n3 c3] w fun e w' => (∃ r : Int, e = .returned (.int .i64 r)) ∧ w = w' := by
  go_enter Try.func7, Try.ntmps7
  go_wp2_with fail
  refine (addLens_any _ a1 n1 c1 S1 _ hn1 h1).mono ?_
  rintro e w' ⟨⟨r1, rfl⟩, rfl⟩
  go_wp2_with fail
  refine (addLens_any _ a2 n2 c2 S2 _ hn2 h2).mono ?_
  rintro e w' ⟨⟨r2, rfl⟩, rfl⟩
  go_wp2_with fail
  refine (addLens_any _ a3 n3 c3 S3 _ hn3 h3).mono ?_
  rintro e w' ⟨⟨r3, rfl⟩, rfl⟩
  go_wp2_with fail
  go_ret
  exact ⟨⟨_, rfl⟩, rfl⟩
end Go.Proofs.Qxb6001492a
