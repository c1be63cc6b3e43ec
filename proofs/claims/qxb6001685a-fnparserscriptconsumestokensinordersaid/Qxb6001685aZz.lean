import Derived.Test.Qxb6001685aAid
namespace Go.Proofs.Qxb6001685a
open Go.RowKit

set_option maxHeartbeats 4000000 in
theorem zz_any (a0 a1 a3 a4 : Option Addr) (st : Int) (n0 n1 n3 n4 c0 c1 c3 c4 : Nat) (S1 S4 : Nat → ByteArray) (w : World) (hn0 : n0 ≤ 9223372036854775807) (hn1 : n1 ≤ 9223372036854775807) (hn3 : n3 ≤ 9223372036854775807) (hn4 : n4 ≤ 9223372036854775807)
    (h1 : Row w a1 n1 (strs S1)) (h4 : Row w a4 n4 (strs S4)) :
    Calls Try.prog 16 #[.slice a0 n0 c0, .slice a1 n1 c1, .int .i64 st, .slice a3 n3 c3, .slice a4 n4 c4] w fun e w' => SomeBool e ∧ w = w' := by
  by_cases g0 : (1048576 : Int) < (n0 : Int)
  · go_enter Try.func16, Try.ntmps16
    go_wp2
    go_ret
    exact ⟨⟨_, rfl⟩, rfl⟩
  by_cases g1 : (1048576 : Int) < (n1 : Int)
  · go_enter Try.func16, Try.ntmps16
    go_wp2
    go_ret
    exact ⟨⟨_, rfl⟩, rfl⟩
  by_cases g2 : (1048576 : Int) < (n0 : Int) + (n1 : Int)
  · go_enter Try.func16, Try.ntmps16
    go_wp2
    go_ret
    exact ⟨⟨_, rfl⟩, rfl⟩
  rcases h1 with h1 | ⟨b1, off1, rfl, hlt1, hc1⟩ <;> rcases h4 with h4 | ⟨b4, off4, rfl, hlt4, hc4⟩
  all_goals
    go_enter Try.func16, Try.ntmps16
    go_wp2
    go_loop [11, 12] (fun t x => ∃ z k : Nat, k ≤ n1 ∧ z ≤ 1048576 ∧ t = .int .i64 z ∧ x = .int .i64 k) (fun _ x => n1 - (intOf x).toNat)
    case atStart => exact ⟨n0 + n1, 0, Nat.zero_le _, by omega, by go_num, rfl⟩
    case round =>
      obtain ⟨z1, k, hk, hz1, rfl, rfl⟩ := hrel
      by_cases hkn : k < n1
      · first
        | (exfalso; have := h1.out; omega)
        | (have hcx : w.cell? ⟨b1, off1 + k, none⟩ = some (.string (S1 k)) := hc1 k hkn
           try clear hc1
           try clear hc4
           by_cases t1 : (1048576 : Int) < ((S1 k).size : Int)
           · go_wp2
             go_ret
             exact ⟨⟨_, rfl⟩, rfl⟩
           · by_cases t2 : (1048576 : Int) < (z1 : Int) + ((S1 k).size : Int)
             · go_wp2
               go_ret
               exact ⟨⟨_, rfl⟩, rfl⟩
             · go_wp2
               go_round
               case rel => exact ⟨z1 + (S1 k).size, k + 1, by omega, by omega, by go_num, by go_num⟩
               case measure => simp [intOf]; omega)
      · by_cases t1 : (1048576 : Int) < (n3 : Int)
        · go_wp2
          go_ret
          exact ⟨⟨_, rfl⟩, rfl⟩
        by_cases t2 : (1048576 : Int) < (z1 : Int) + (n3 : Int)
        · go_wp2
          go_ret
          exact ⟨⟨_, rfl⟩, rfl⟩
        by_cases t3 : (1048576 : Int) < (n4 : Int)
        · go_wp2
          go_ret
          exact ⟨⟨_, rfl⟩, rfl⟩
        by_cases t4 : (1048576 : Int) < (z1 : Int) + (n3 : Int) + (n4 : Int)
        · go_wp2
          go_ret
          exact ⟨⟨_, rfl⟩, rfl⟩
        go_wp2
        go_loop [11, 13] (fun t x => ∃ z k : Nat, k ≤ n4 ∧ z ≤ 1048576 ∧ t = .int .i64 z ∧ x = .int .i64 k) (fun _ x => n4 - (intOf x).toNat)
        case atStart => exact ⟨z1 + n3 + n4, 0, Nat.zero_le _, by omega, by go_num, rfl⟩
        case round =>
          obtain ⟨z4, k, hk, hz4, rfl, rfl⟩ := hrel
          by_cases hkn : k < n4
          · first
            | (exfalso; have := h4.out; omega)
            | (have hcx : w.cell? ⟨b4, off4 + k, none⟩ = some (.string (S4 k)) := hc4 k hkn
               try clear hc1
               try clear hc4
               by_cases t1 : (1048576 : Int) < ((S4 k).size : Int)
               · go_wp2
                 go_ret
                 exact ⟨⟨_, rfl⟩, rfl⟩
               · by_cases t2 : (1048576 : Int) < (z4 : Int) + ((S4 k).size : Int)
                 · go_wp2
                   go_ret
                   exact ⟨⟨_, rfl⟩, rfl⟩
                 · go_wp2
                   go_round
                   case rel => exact ⟨z4 + (S4 k).size, k + 1, by omega, by omega, by go_num, by go_num⟩
                   case measure => simp [intOf]; omega)
          · go_wp2
            go_ret
            exact ⟨⟨_, rfl⟩, rfl⟩
end Go.Proofs.Qxb6001685a
