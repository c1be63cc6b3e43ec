import Derived.Test.Qxb6001685aAid
namespace Go.Proofs.Qxb6001685a
open Go.RowKit

set_option maxHeartbeats 400000 in
theorem strBytes_any (a : Option Addr) (n c : Nat) (S : Nat → ByteArray) (w : World) (hn : n ≤ 65536) (h : Row w a n (strs S)) :
    Calls Try.prog 17 #[.slice a n c] w fun e w' => (∃ r : Int, e = .returned (.int .i64 r)) ∧ w = w' := by
  rcases h with h0 | ⟨b, off, rfl, hlt, hc⟩
  all_goals
    go_enter Try.func17, Try.ntmps17
    go_wp2
    go_loop [3, 4] (fun t i => ∃ (z : Int) (k : Nat), k ≤ n ∧ t = .int .i64 z ∧ i = .int .i64 k) (fun _ i => n - (intOf i).toNat)
    case atStart => exact ⟨_, 0, Nat.zero_le _, rfl, rfl⟩
    case round =>
      obtain ⟨z, k, hk, rfl, rfl⟩ := hrel
      by_cases hkn : k < n
      · first
        | (exfalso; have := h0.out; omega)
        | (have hcx : w.cell? ⟨b, off + k, none⟩ = some (.string (S k)) := hc k hkn
           clear hc
           go_wp2
           · go_ret
             exact ⟨⟨_, rfl⟩, rfl⟩
           · go_round
             case rel => exact ⟨_, k + 1, by omega, rfl, by go_num⟩
             case measure => simp [intOf]; omega)
      · go_wp2
        go_ret
        exact ⟨⟨_, rfl⟩, rfl⟩
end Go.Proofs.Qxb6001685a
