import Derived.Test.Qxb6001685aNew
import Derived.Test.Qxb6001685aBytes
import Derived.Test.Qxb6001685aZz
namespace Go.Proofs.Qxb6001685a
open Go.RowKit

/- No token at all: the law answers at once. -/
set_option maxRecDepth 100000 in
set_option maxHeartbeats 8000000 in
theorem walk_none (a0 a1 a3 a4 : Option Addr) (st : Int) (n1 n3 n4 c0 c1 c3 c4 : Nat) (X Y : Nat → ByteArray) (w : World)
    (m1 : n1 ≤ 9223372036854775807) (m3 : n3 ≤ 9223372036854775807) (m4 : n4 ≤ 9223372036854775807)
    (r1 : Row w a1 n1 (strs X)) (r4 : Row w a4 n4 (strs Y)) :
    Calls Try.prog 6 #[.slice a0 0 c0, .slice a1 n1 c1, .int .i64 st, .slice a3 n3 c3, .slice a4 n4 c4] w fun e w' => e = .returned (.bool true) ∧ Below w.heap.size w w' := by
  go_enter Try.func6, Try.ntmps6
  go_wp2_with fail
  refine (zz_any a0 a1 a3 a4 st 0 n1 n3 n4 c0 c1 c3 c4 X Y w (by omega) m1 m3 m4 r1 r4).mono ?_
  rintro e w' ⟨⟨β, rfl⟩, rfl⟩
  cases β with
  | false =>
    go_wp2_with fail
    go_ret
    exact ⟨rfl, Below.refl _ _⟩
  | true =>
  by_cases g1 : (65536 : Int) < (n1 : Int)
  · go_wp2_with fail
    go_ret
    exact ⟨rfl, Below.refl _ _⟩
  by_cases g3 : (65536 : Int) < (n3 : Int)
  · go_wp2_with fail
    go_ret
    exact ⟨rfl, Below.refl _ _⟩
  by_cases g4 : (65536 : Int) < (n4 : Int)
  · go_wp2_with fail
    go_ret
    exact ⟨rfl, Below.refl _ _⟩
  have d1 : decide ((65536 : Int) < (n1 : Int)) = false := decide_eq_false g1
  have d3 : decide ((65536 : Int) < (n3 : Int)) = false := decide_eq_false g3
  have d4 : decide ((65536 : Int) < (n4 : Int)) = false := decide_eq_false g4
  have k1 : n1 ≤ 65536 := by omega
  have k3 : n3 ≤ 65536 := by omega
  have k4 : n4 ≤ 65536 := by omega
  clear g1 g3 g4 m1 m3 m4
  go_wp2_with fail
  clear d1 d3 d4
  refine (strBytes_any a1 n1 c1 X w k1 r1).mono ?_
  rintro e w' ⟨⟨z1, rfl⟩, rfl⟩
  go_wp2_with fail
  refine (strBytes_any a4 n4 c4 Y w k4 r4).mono ?_
  rintro e w' ⟨⟨z4, rfl⟩, rfl⟩
  by_cases gs : (1048576 : Int) < wrap64 (wrap64 ((n3 : Int) + z1) + z4)
  · go_wp2_with fail
    go_ret
    exact ⟨rfl, Below.refl _ _⟩
  · go_wp2_with fail
    go_ret
    exact ⟨rfl, Below.refl _ _⟩
end Go.Proofs.Qxb6001685a
