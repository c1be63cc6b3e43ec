import Derived.Test.Qxb6001492aAid
namespace Go.Proofs.Qxb6001492a
open Go.RowKit

set_option maxHeartbeats 4000000 in
theorem zz_any (a0 a1 a2 a3 : Option Addr) (n0 n1 n2 n3 c0 c1 c2 c3 : Nat) (S1 S2 S3 : Nat → ByteArray) (w : World) (hn0 : n0 ≤ 9223372036854775807) (hn1 : n1 ≤ 9223372036854775807) (hn2 : n2 ≤ 9223372036854775807) (hn3 : n3 ≤ 9223372036854775807)
    (h1 : Row w a1 n1 (strs S1)) (h2 : Row w a2 n2 (strs S2)) (h3 : Row w a3 n3 (strs S3)) :
    Calls Try.prog 6 #[.slice a0 n0 c0, .slice a1 n1 c1, .slice a2 n2 c2, .slice a3 n3 c3] w fun e w' => SomeBool e ∧ w = w' := by
  by_cases g0 : (1048576 : Int) < (n0 : Int)
  · go_enter Try.func6, Try.ntmps6
    go_wp2
    go_ret
    exact ⟨⟨_, rfl⟩, rfl⟩
  by_cases g1 : (1048576 : Int) < (n1 : Int)
  · go_enter Try.func6, Try.ntmps6
    go_wp2
    go_ret
    exact ⟨⟨_, rfl⟩, rfl⟩
  by_cases g2 : (1048576 : Int) < (n0 : Int) + (n1 : Int)
  · go_enter Try.func6, Try.ntmps6
    go_wp2
    go_ret
    exact ⟨⟨_, rfl⟩, rfl⟩
  rcases h1 with h1 | ⟨b1, off1, rfl, hlt1, hc1⟩ <;> rcases h2 with h2 | ⟨b2, off2, rfl, hlt2, hc2⟩ <;> rcases h3 with h3 | ⟨b3, off3, rfl, hlt3, hc3⟩
  all_goals
    go_enter Try.func6, Try.ntmps6
    go_wp2
    go_loop [9, 10] (fun t x => ∃ z k : Nat, k ≤ n1 ∧ z ≤ 1048576 ∧ t = .int .i64 z ∧ x = .int .i64 k) (fun _ x => n1 - (intOf x).toNat)
    case atStart => exact ⟨n0 + n1, 0, Nat.zero_le _, by omega, by go_num, rfl⟩
    case round =>
      obtain ⟨z1, k, hk, hz1, rfl, rfl⟩ := hrel
      by_cases hkn : k < n1
      · first
        | (exfalso; have := h1.out; omega)
        | (have hcx : w.cell? ⟨b1, off1 + k, none⟩ = some (.string (S1 k)) := hc1 k hkn
           try clear hc1
           try clear hc2
           try clear hc3
           by_cases t1 : (1048576 : Int) < ((S1 k).size : Int)
           · go_wp2
             go_ret
             exact ⟨⟨_, rfl⟩, rfl⟩
           · by_cases t2 : (1048576 : Int) < (z1 : Int) + ((S1 k).size : Int)
             · go_wp2
               go_ret
               exact ⟨⟨_, rfl⟩, rfl⟩
             · go_wp2
               go_round
               case rel => exact ⟨z1 + (S1 k).size, k + 1, by omega, by omega, by go_num, by go_num⟩
               case measure => simp [intOf]; omega)
      · by_cases t1 : (1048576 : Int) < (n2 : Int)
        · go_wp2
          go_ret
          exact ⟨⟨_, rfl⟩, rfl⟩
        · by_cases t2 : (1048576 : Int) < (z1 : Int) + (n2 : Int)
          · go_wp2
            go_ret
            exact ⟨⟨_, rfl⟩, rfl⟩
          · go_wp2
            go_loop [9, 11] (fun t x => ∃ z k : Nat, k ≤ n2 ∧ z ≤ 1048576 ∧ t = .int .i64 z ∧ x = .int .i64 k) (fun _ x => n2 - (intOf x).toNat)
            case atStart => exact ⟨z1 + n2, 0, Nat.zero_le _, by omega, by go_num, rfl⟩
            case round =>
              obtain ⟨z2, k, hk, hz2, rfl, rfl⟩ := hrel
              by_cases hkn : k < n2
              · first
                | (exfalso; have := h2.out; omega)
                | (have hcx : w.cell? ⟨b2, off2 + k, none⟩ = some (.string (S2 k)) := hc2 k hkn
                   try clear hc1
                   try clear hc2
                   try clear hc3
                   by_cases t1 : (1048576 : Int) < ((S2 k).size : Int)
                   · go_wp2
                     go_ret
                     exact ⟨⟨_, rfl⟩, rfl⟩
                   · by_cases t2 : (1048576 : Int) < (z2 : Int) + ((S2 k).size : Int)
                     · go_wp2
                       go_ret
                       exact ⟨⟨_, rfl⟩, rfl⟩
                     · go_wp2
                       go_round
                       case rel => exact ⟨z2 + (S2 k).size, k + 1, by omega, by omega, by go_num, by go_num⟩
                       case measure => simp [intOf]; omega)
              · by_cases t1 : (1048576 : Int) < (n3 : Int)
                · go_wp2
                  go_ret
                  exact ⟨⟨_, rfl⟩, rfl⟩
                · by_cases t2 : (1048576 : Int) < (z2 : Int) + (n3 : Int)
                  · go_wp2
                    go_ret
                    exact ⟨⟨_, rfl⟩, rfl⟩
                  · go_wp2
                    go_loop [9, 12] (fun t x => ∃ z k : Nat, k ≤ n3 ∧ z ≤ 1048576 ∧ t = .int .i64 z ∧ x = .int .i64 k) (fun _ x => n3 - (intOf x).toNat)
                    case atStart => exact ⟨z2 + n3, 0, Nat.zero_le _, by omega, by go_num, rfl⟩
                    case round =>
                      obtain ⟨z3, k, hk, hz3, rfl, rfl⟩ := hrel
                      by_cases hkn : k < n3
                      · first
                        | (exfalso; have := h3.out; omega)
                        | (have hcx : w.cell? ⟨b3, off3 + k, none⟩ = some (.string (S3 k)) := hc3 k hkn
                           try clear hc1
                           try clear hc2
                           try clear hc3
                           by_cases t1 : (1048576 : Int) < ((S3 k).size : Int)
                           · go_wp2
                             go_ret
                             exact ⟨⟨_, rfl⟩, rfl⟩
                           · by_cases t2 : (1048576 : Int) < (z3 : Int) + ((S3 k).size : Int)
                             · go_wp2
                               go_ret
                               exact ⟨⟨_, rfl⟩, rfl⟩
                             · go_wp2
                               go_round
                               case rel => exact ⟨z3 + (S3 k).size, k + 1, by omega, by omega, by go_num, by go_num⟩
                               case measure => simp [intOf]; omega)
                      · go_wp2
                        go_ret
                        exact ⟨⟨_, rfl⟩, rfl⟩
end Go.Proofs.Qxb6001492a
