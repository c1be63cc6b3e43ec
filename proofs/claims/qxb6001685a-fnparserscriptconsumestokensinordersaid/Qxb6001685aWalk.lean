import Derived.Test.Qxb6001685aNew
import Derived.Test.Qxb6001685aBytes
import Derived.Test.Qxb6001685aZz
namespace Go.Proofs.Qxb6001685a
open Go.RowKit

theorem empty_test (x : ByteArray) : (x.toList == (⟨#[]⟩ : ByteArray).toList) = x.toList.isEmpty := by
  rw [ByteArray.toList_eq (⟨#[]⟩ : ByteArray)]
  cases x.toList <;> rfl

set_option maxRecDepth 100000 in
set_option maxHeartbeats 8000000 in
theorem walk_some (b0 o0 : Nat) (a1 a3 a4 : Option Addr) (st : Int) (n0 n1 n3 n4 c0 c1 c3 c4 : Nat) (K C : Nat → Int) (X Y : Nat → ByteArray) (w : World) (hpos : 0 < n0)
    (m0 : n0 ≤ 9223372036854775807) (m1 : n1 ≤ 9223372036854775807) (m3 : n3 ≤ 9223372036854775807) (m4 : n4 ≤ 9223372036854775807)
    (r0 : Row w (some ⟨b0, o0, none⟩) n0 (bytes K)) (hlast : w.cell? ⟨b0, o0 + (n0 - 1), none⟩ = some (.int .u8 (K (n0 - 1))))
    (r1 : Row w a1 n1 (strs X)) (r3 : Row w a3 n3 (bytes C)) (r4 : Row w a4 n4 (strs Y)) (hC : Hid (∀ i, i < n3 → 0 ≤ C i ∧ C i ≤ 255)) :
    Calls Try.prog 6 #[.slice (some ⟨b0, o0, none⟩) n0 c0, .slice a1 n1 c1, .int .i64 st, .slice a3 n3 c3, .slice a4 n4 c4] w fun e w' => e = .returned (.bool true) ∧ Below w.heap.size w w' := by
  go_enter Try.func6, Try.ntmps6
  go_wp2_with fail
  refine (zz_any (some ⟨b0, o0, none⟩) a1 a3 a4 st n0 n1 n3 n4 c0 c1 c3 c4 X Y w m0 m1 m3 m4 r1 r4).mono ?_
  rintro e w' ⟨⟨β, rfl⟩, rfl⟩
  cases β with
  | false =>
    go_wp2_with fail
    go_ret
    exact ⟨rfl, Below.refl _ _⟩
  | true =>
  by_cases g0 : (65536 : Int) < (n0 : Int)
  · go_wp2_with fail
    go_ret
    exact ⟨rfl, Below.refl _ _⟩
  by_cases g1 : (65536 : Int) < (n1 : Int)
  · go_wp2_with fail
    go_ret
    exact ⟨rfl, Below.refl _ _⟩
  by_cases g3 : (65536 : Int) < (n3 : Int)
  · go_wp2_with fail
    go_ret
    exact ⟨rfl, Below.refl _ _⟩
  by_cases g4 : (65536 : Int) < (n4 : Int)
  · go_wp2_with fail
    go_ret
    exact ⟨rfl, Below.refl _ _⟩
  have d0 : decide ((65536 : Int) < (n0 : Int)) = false := decide_eq_false g0
  have d1 : decide ((65536 : Int) < (n1 : Int)) = false := decide_eq_false g1
  have d3 : decide ((65536 : Int) < (n3 : Int)) = false := decide_eq_false g3
  have d4 : decide ((65536 : Int) < (n4 : Int)) = false := decide_eq_false g4
  have k0 : n0 ≤ 65536 := by omega
  have k1 : n1 ≤ 65536 := by omega
  have k3 : n3 ≤ 65536 := by omega
  have k4 : n4 ≤ 65536 := by omega
  clear g0 g1 g3 g4 m0 m1 m3 m4
  go_wp2_with fail
  clear d0 d1 d3 d4
  refine (strBytes_any a1 n1 c1 X w k1 r1).mono ?_
  rintro e w' ⟨⟨z1, rfl⟩, rfl⟩
  go_wp2_with fail
  refine (strBytes_any a4 n4 c4 Y w k4 r4).mono ?_
  rintro e w' ⟨⟨z4, rfl⟩, rfl⟩
  by_cases gs : (1048576 : Int) < wrap64 (wrap64 ((n0 : Int) + (n3 : Int) + z1) + z4)
  · go_wp2_with fail
    go_ret
    exact ⟨rfl, Below.refl _ _⟩
  have ds : decide ((1048576 : Int) < wrap64 (wrap64 ((n0 : Int) + (n3 : Int) + z1) + z4)) = false := decide_eq_false gs
  clear gs
  have e0 : ((n0 : Int) == 0) = false := beq_eq_false_iff_ne.2 (by omega)
  by_cases hne : ¬ n1 = n0
  · have e1 : ((n1 : Int) != (n0 : Int)) = true := by rw [bne_iff_ne]; omega
    clear hne
    go_wp2_with fail
    go_ret
    exact ⟨rfl, Below.refl _ _⟩
  obtain rfl : n1 = n0 := by omega
  clear hne
  by_cases hK : ¬ K (n1 - 1) = 0
  · have e1 : (K (n1 - 1) != 0) = true := by simp [hK]
    clear hK
    have i1 : (0 : Int) ≤ (n1 : Int) - 1 := by omega
    go_wp2_with fail
    go_ret
    exact ⟨rfl, Below.refl _ _⟩
  have hK0 : K (n1 - 1) = 0 := by omega
  have e1 : (K (n1 - 1) != 0) = false := by simp [hK0]
  have HK : Hid _ := hK0
  clear hK hK0
  by_cases hs : st < 0
  · go_wp2_with fail
    go_ret
    exact ⟨rfl, Below.refl _ _⟩
  have ds0 : decide (st < 0) = false := decide_eq_false hs
  by_cases hs2 : (n1 : Int) ≤ st
  · go_wp2_with fail
    go_ret
    exact ⟨rfl, Below.refl _ _⟩
  obtain ⟨s, rfl⟩ := Int.eq_ofNat_of_zero_le (show 0 ≤ st by omega)
  have hsn : s < n1 := by omega
  have ds2 : decide ((n1 : Int) ≤ (s : Int)) = false := decide_eq_false hs2
  clear hs hs2
  go_wp2_with fail
  clear ds e0 e1 ds0 ds2 hlast
  refine (cloneBytes_any _ n1 c0 K w k0 r0).mono ?_
  rintro e w1 ⟨⟨a0', c0', rfl, r0'⟩, b1⟩
  go_wp2_with fail
  refine (cloneStrings_any a1 n1 c1 X w1 k0 (r1.below b1)).mono ?_
  rintro e w2 ⟨⟨a1', c1', rfl, r1'⟩, b2⟩
  go_wp2_with fail
  refine (cloneBytes_any a3 n3 c3 C w2 k3 ((r3.below b1).below b2)).mono ?_
  rintro e w3 ⟨⟨a3', c3', rfl, r3'⟩, b3⟩
  go_wp2_with fail
  refine (cloneStrings_any a4 n4 c4 Y w3 k4 (((r4.below b1).below b2).below b3)).mono ?_
  rintro e wf ⟨⟨a4', c4', rfl, r4'⟩, b4⟩
  have hb : Below w.heap.size w wf := ((b1.trans (b2.mono b1.size)).trans (b3.mono (Nat.le_trans b1.size b2.size))).trans (b4.mono (Nat.le_trans b1.size (Nat.le_trans b2.size b3.size)))
  have q0 := ((r0'.below b2).below b3).below b4
  have q1 := (r1'.below b3).below b4
  have q3 := r3'.below b4
  have HB : Hid (Below w.heap.size w wf) := hb
  clear r0 r1 r3 r4 r0' r1' r3' b1 b2 b3 b4 hb
  obtain ⟨B1, O1, rfl, L1, V1⟩ := q1.some hpos
  have Q0 : Hid _ := q0
  obtain ⟨B0, O0, rfl, L0, V0⟩ := q0.some hpos
  have Q1 : Hid _ := q1
  clear q0 q1
  have U0 : ∀ i, Hid (i < n1 → wf.cell? ⟨B0, O0 + i, none⟩ = Option.some (.int .u8 (K i))) := fun i hi => V0 i hi
  have U1 : ∀ i, Hid (i < n1 → wf.cell? ⟨B1, O1 + i, none⟩ = Option.some (.string (X i))) := fun i hi => V1 i hi
  clear V0 V1
  go_wp2_with fail
  go_loop [11] (fun t => ∃ E : Nat, s ≤ E ∧ E < n1 ∧ Hid (∀ l, s ≤ l → l < E → K l ≠ 0) ∧ t = .int .i64 E) (fun t => n1 - (intOf t).toNat)
  case atStart => exact ⟨s, Nat.le_refl _, hsn, fun l h1 h2 => absurd h1 (by omega), rfl⟩
  case round =>
    obtain ⟨E, hE1, hE2, HE, rfl⟩ := hrel
    have x0 := (U0 E).out hE2
    by_cases hKE : ¬ K E = 0
    · have e1 : (K E != 0) = true := by simp [hKE]
      have hlt : E + 1 < n1 := by
        rcases Nat.lt_or_ge (E + 1) n1 with h | h
        · exact h
        · have : E = n1 - 1 := by omega
          rw [this] at hKE
          exact absurd HK.out hKE
      have HE' : Hid (∀ l, s ≤ l → l < E + 1 → K l ≠ 0) := by
        intro l h1 h2
        by_cases e : l = E
        · rw [e]; exact hKE
        · exact HE.out l h1 (by omega)
      clear hKE HE
      go_wp2_with fail
      go_round
      case rel => exact ⟨E + 1, by omega, hlt, HE', by go_num⟩
      case measure => simp [intOf]; omega
    · have hKE0 : K E = 0 := by omega
      have e1 : (K E != 0) = false := by simp [hKE0]
      have HKE : Hid _ := hKE0
      clear hKE hKE0
      go_wp2_with fail
      clear e1 x0
      refine (new_any _ _ n1 c0' c1' s K X wf hpos k0 Q0.out Q1.out).mono ?_
      rintro e wn ⟨rfl, hinv⟩
      have HI : Hid _ := hinv
      clear hinv
      go_wp2_with fail
      rcases q3 with h3 | ⟨B3, O3, rfl, L3, V3⟩ <;> rcases r4' with h4 | ⟨B4, O4, rfl, L4, V4⟩
      all_goals
        go_loopw [13] (fun t wr => ∃ i pos : Nat, i ≤ n3 ∧ s ≤ pos ∧ pos ≤ E ∧ t = .int .i64 i ∧ Inv wf wf.heap.size (wf.heap.size + 1) n1 K X pos wr) (fun t _ => n3 - (intOf t).toNat)
        case atStart => exact ⟨0, s, Nat.zero_le _, Nat.le_refl _, hE1, rfl, HI.out⟩
        case round =>
          try clear HI
          obtain ⟨i, pos, hi, hp1, hp2, rfl, hinv⟩ := hrel
          by_cases hin : i < n3
          · first
            | (exfalso; have := h3.out; omega)
            | (skip
               have HJ : Hid _ := hinv
               have xs : wr.cell? ⟨B3, O3 + i, none⟩ = Option.some (.int .u8 (C i)) := (hinv.bel.cell (p := ⟨B3, O3 + i, none⟩) L3).trans (V3 i hin)
               obtain ⟨cb1, cb2⟩ := hC.out i hin
               clear hinv
               try clear V3
               go_wp2_with fail
               refine (pos_any wf wf.heap.size (wf.heap.size + 1) n1 K X pos wr HJ.out).mono ?_
               rintro e w' ⟨rfl, rfl⟩
               have hp1' : (s : Int) ≤ (pos : Int) := by omega
               have hp2' : (pos : Int) ≤ (E : Int) := by omega
               cases hpar : (C i % 2 == 0) with
               | true =>
                 try clear V4
                 go_wp2_with fail
                 refine (zznext_any wf wf.heap.size (wf.heap.size + 1) n1 K X pos wr HJ.out (by omega) k0).mono ?_
                 rintro e w2 ⟨rfl, hj2⟩
                 by_cases hpe : (pos : Int) < (E : Int)
                 · have hj3 : Inv wf wf.heap.size (wf.heap.size + 1) n1 K X (pos + 1) w2 := by
                     rw [np, if_neg (HE.out pos hp1 (by omega))] at hj2
                     exact hj2
                   have ck : w2.cell? ⟨B0, O0 + pos, none⟩ = Option.some (.int .u8 (K pos)) := (hj3.bel.cell (p := ⟨B0, O0 + pos, none⟩) L0).trans ((U0 pos).out (by omega))
                   have ct : w2.cell? ⟨B1, O1 + pos, none⟩ = Option.some (.string (X pos)) := (hj3.bel.cell (p := ⟨B1, O1 + pos, none⟩) L1).trans ((U1 pos).out (by omega))
                   have HJ3 : Hid _ := hj3
                   clear hj2 hj3 HJ xs
                   go_wp2_with fail
                   refine (pos_any wf wf.heap.size (wf.heap.size + 1) n1 K X (pos + 1) w2 HJ3.out).mono ?_
                   rintro e w' ⟨rfl, rfl⟩
                   go_wp2_with fail
                   go_roundw
                   case rel => exact ⟨i + 1, pos + 1, by omega, by omega, by omega, by go_num, HJ3.out⟩
                   case measure => simp [intOf]; omega
                 · have hpE : pos = E := by omega
                   have hj3 : Inv wf wf.heap.size (wf.heap.size + 1) n1 K X pos w2 := by
                     rw [np, if_pos (by rw [hpE]; exact HKE.out)] at hj2
                     exact hj2
                   have ck : w2.cell? ⟨B0, O0 + pos, none⟩ = Option.some (.int .u8 (K pos)) := (hj3.bel.cell (p := ⟨B0, O0 + pos, none⟩) L0).trans ((U0 pos).out (by omega))
                   have ct : w2.cell? ⟨B1, O1 + pos, none⟩ = Option.some (.string (X pos)) := (hj3.bel.cell (p := ⟨B1, O1 + pos, none⟩) L1).trans ((U1 pos).out (by omega))
                   have HJ3 : Hid _ := hj3
                   clear hj2 hj3 HJ xs hpE
                   go_wp2_with fail
                   refine (pos_any wf wf.heap.size (wf.heap.size + 1) n1 K X pos w2 HJ3.out).mono ?_
                   rintro e w' ⟨rfl, rfl⟩
                   go_wp2_with fail
                   go_roundw
                   case rel => exact ⟨i + 1, pos, by omega, by omega, by omega, by go_num, HJ3.out⟩
                   case measure => simp [intOf]; omega
               | false =>
                 by_cases hn4 : 0 < n4
                 · first
                   | (exfalso; have := h4.out; omega)
                   | (have ix1 : 0 ≤ C i / 2 % (n4 : Int) := Int.emod_nonneg _ (by omega)
                      have ix2 : C i / 2 % (n4 : Int) < (n4 : Int) := Int.emod_lt_of_pos _ (by omega)
                      have hidx : 0 ≤ C i / 2 % (n4 : Int) ∧ C i / 2 % (n4 : Int) < (n4 : Int) := ⟨ix1, ix2⟩
                      obtain ⟨SY, xy⟩ : ∃ SY, wr.cell? ⟨B4, O4 + (C i / 2 % (n4 : Int)).toNat, none⟩ = Option.some (.string SY) := ⟨_, (HJ.out.bel.cell (p := ⟨B4, O4 + (C i / 2 % (n4 : Int)).toNat, none⟩) L4).trans (V4 _ (by omega))⟩
                      try clear V4
                      go_wp2_with fail
                      clear xs xy hidx ix1 ix2
                      refine (zzaccept_any wf wf.heap.size (wf.heap.size + 1) n1 K X pos SY wr HJ.out (by omega) k0).mono ?_
                      rintro e w2 ⟨rfl, hj2⟩
                      cases c6 : (K pos == 6) with
                      | true =>
                        have hlt : pos < E := by
                          have h6 : K pos = 6 := by simpa using c6
                          rcases Nat.lt_or_ge pos E with h | h
                          · exact h
                          · have hpE : pos = E := by omega
                            rw [hpE, HKE.out] at h6
                            omega
                        cases cx : ((X pos).toList == ByteArray.toList SY) with
                        | true =>
                          have hβ : isB (K pos) (X pos) SY = true := by rw [isB, c6, cx]; rfl
                          rw [hβ] at hj2 ⊢
                          have hj3 : Inv wf wf.heap.size (wf.heap.size + 1) n1 K X (pos + 1) w2 := hj2
                          have ck : w2.cell? ⟨B0, O0 + pos, none⟩ = Option.some (.int .u8 (K pos)) := (hj3.bel.cell (p := ⟨B0, O0 + pos, none⟩) L0).trans ((U0 pos).out (by omega))
                          have ct : w2.cell? ⟨B1, O1 + pos, none⟩ = Option.some (.string (X pos)) := (hj3.bel.cell (p := ⟨B1, O1 + pos, none⟩) L1).trans ((U1 pos).out (by omega))
                          have HJ3 : Hid _ := hj3
                          clear hj2 hj3 HJ hβ
                          go_wp2_with fail
                          refine (pos_any wf wf.heap.size (wf.heap.size + 1) n1 K X (pos + 1) w2 HJ3.out).mono ?_
                          rintro e w' ⟨rfl, rfl⟩
                          go_wp2_with fail
                          go_roundw
                          case rel => exact ⟨i + 1, pos + 1, by omega, by omega, by omega, by go_num, HJ3.out⟩
                          case measure => simp [intOf]; omega
                        | false =>
                          have hβ : isB (K pos) (X pos) SY = false := by rw [isB, c6, cx]; rfl
                          rw [hβ] at hj2 ⊢
                          have hj3 : Inv wf wf.heap.size (wf.heap.size + 1) n1 K X pos w2 := hj2
                          have ck : w2.cell? ⟨B0, O0 + pos, none⟩ = Option.some (.int .u8 (K pos)) := (hj3.bel.cell (p := ⟨B0, O0 + pos, none⟩) L0).trans ((U0 pos).out (by omega))
                          have ct : w2.cell? ⟨B1, O1 + pos, none⟩ = Option.some (.string (X pos)) := (hj3.bel.cell (p := ⟨B1, O1 + pos, none⟩) L1).trans ((U1 pos).out (by omega))
                          have HJ3 : Hid _ := hj3
                          clear hj2 hj3 HJ hβ
                          go_wp2_with fail
                          refine (pos_any wf wf.heap.size (wf.heap.size + 1) n1 K X pos w2 HJ3.out).mono ?_
                          rintro e w' ⟨rfl, rfl⟩
                          go_wp2_with fail
                          go_roundw
                          case rel => exact ⟨i + 1, pos, by omega, by omega, by omega, by go_num, HJ3.out⟩
                          case measure => simp [intOf]; omega
                      | false =>
                        have hβ : isB (K pos) (X pos) SY = false := by rw [isB, c6]; rfl
                        rw [hβ] at hj2 ⊢
                        have hj3 : Inv wf wf.heap.size (wf.heap.size + 1) n1 K X pos w2 := hj2
                        have ck : w2.cell? ⟨B0, O0 + pos, none⟩ = Option.some (.int .u8 (K pos)) := (hj3.bel.cell (p := ⟨B0, O0 + pos, none⟩) L0).trans ((U0 pos).out (by omega))
                        have ct : w2.cell? ⟨B1, O1 + pos, none⟩ = Option.some (.string (X pos)) := (hj3.bel.cell (p := ⟨B1, O1 + pos, none⟩) L1).trans ((U1 pos).out (by omega))
                        have HJ3 : Hid _ := hj3
                        clear hj2 hj3 HJ hβ
                        go_wp2_with fail
                        refine (pos_any wf wf.heap.size (wf.heap.size + 1) n1 K X pos w2 HJ3.out).mono ?_
                        rintro e w' ⟨rfl, rfl⟩
                        go_wp2_with fail
                        go_roundw
                        case rel => exact ⟨i + 1, pos, by omega, by omega, by omega, by go_num, HJ3.out⟩
                        case measure => simp [intOf]; omega
                      )
                 · try clear V4
                   go_wp2_with fail
                   clear xs
                   refine (zzaccept_any wf wf.heap.size (wf.heap.size + 1) n1 K X pos (⟨#[]⟩ : ByteArray) wr HJ.out (by omega) k0).mono ?_
                   rintro e w2 ⟨rfl, hj2⟩
                   cases c6 : (K pos == 6) with
                   | true =>
                     have hlt : pos < E := by
                       have h6 : K pos = 6 := by simpa using c6
                       rcases Nat.lt_or_ge pos E with h | h
                       · exact h
                       · have hpE : pos = E := by omega
                         rw [hpE, HKE.out] at h6
                         omega
                     cases cx : (X pos).toList.isEmpty with
                     | true =>
                       have hβ : isB (K pos) (X pos) (⟨#[]⟩ : ByteArray) = true := by rw [isB, c6, empty_test, cx]; rfl
                       rw [hβ] at hj2 ⊢
                       have hj3 : Inv wf wf.heap.size (wf.heap.size + 1) n1 K X (pos + 1) w2 := hj2
                       have ck : w2.cell? ⟨B0, O0 + pos, none⟩ = Option.some (.int .u8 (K pos)) := (hj3.bel.cell (p := ⟨B0, O0 + pos, none⟩) L0).trans ((U0 pos).out (by omega))
                       have ct : w2.cell? ⟨B1, O1 + pos, none⟩ = Option.some (.string (X pos)) := (hj3.bel.cell (p := ⟨B1, O1 + pos, none⟩) L1).trans ((U1 pos).out (by omega))
                       have HJ3 : Hid _ := hj3
                       clear hj2 hj3 HJ hβ
                       go_wp2_with fail
                       refine (pos_any wf wf.heap.size (wf.heap.size + 1) n1 K X (pos + 1) w2 HJ3.out).mono ?_
                       rintro e w' ⟨rfl, rfl⟩
                       go_wp2_with fail
                       go_roundw
                       case rel => exact ⟨i + 1, pos + 1, by omega, by omega, by omega, by go_num, HJ3.out⟩
                       case measure => simp [intOf]; omega
                     | false =>
                       have hβ : isB (K pos) (X pos) (⟨#[]⟩ : ByteArray) = false := by rw [isB, c6, empty_test, cx]; rfl
                       rw [hβ] at hj2 ⊢
                       have hj3 : Inv wf wf.heap.size (wf.heap.size + 1) n1 K X pos w2 := hj2
                       have ck : w2.cell? ⟨B0, O0 + pos, none⟩ = Option.some (.int .u8 (K pos)) := (hj3.bel.cell (p := ⟨B0, O0 + pos, none⟩) L0).trans ((U0 pos).out (by omega))
                       have ct : w2.cell? ⟨B1, O1 + pos, none⟩ = Option.some (.string (X pos)) := (hj3.bel.cell (p := ⟨B1, O1 + pos, none⟩) L1).trans ((U1 pos).out (by omega))
                       have HJ3 : Hid _ := hj3
                       clear hj2 hj3 HJ hβ
                       go_wp2_with fail
                       refine (pos_any wf wf.heap.size (wf.heap.size + 1) n1 K X pos w2 HJ3.out).mono ?_
                       rintro e w' ⟨rfl, rfl⟩
                       go_wp2_with fail
                       go_roundw
                       case rel => exact ⟨i + 1, pos, by omega, by omega, by omega, by go_num, HJ3.out⟩
                       case measure => simp [intOf]; omega
                   | false =>
                     have hβ : isB (K pos) (X pos) (⟨#[]⟩ : ByteArray) = false := by rw [isB, c6]; rfl
                     rw [hβ] at hj2 ⊢
                     have hj3 : Inv wf wf.heap.size (wf.heap.size + 1) n1 K X pos w2 := hj2
                     have ck : w2.cell? ⟨B0, O0 + pos, none⟩ = Option.some (.int .u8 (K pos)) := (hj3.bel.cell (p := ⟨B0, O0 + pos, none⟩) L0).trans ((U0 pos).out (by omega))
                     have ct : w2.cell? ⟨B1, O1 + pos, none⟩ = Option.some (.string (X pos)) := (hj3.bel.cell (p := ⟨B1, O1 + pos, none⟩) L1).trans ((U1 pos).out (by omega))
                     have HJ3 : Hid _ := hj3
                     clear hj2 hj3 HJ hβ
                     go_wp2_with fail
                     refine (pos_any wf wf.heap.size (wf.heap.size + 1) n1 K X pos w2 HJ3.out).mono ?_
                     rintro e w' ⟨rfl, rfl⟩
                     go_wp2_with fail
                     go_roundw
                     case rel => exact ⟨i + 1, pos, by omega, by omega, by omega, by go_num, HJ3.out⟩
                     case measure => simp [intOf]; omega
               )
          · have HJ : Hid _ := hinv
            clear hinv
            try clear V3
            try clear V4
            go_wp2_with fail
            go_loopw [22] (fun t wx => ∃ j pos : Nat, j ≤ n1 + 1 ∧ s ≤ pos ∧ pos ≤ E ∧ (E ≤ pos ∨ s + j ≤ pos) ∧ t = .int .i64 j ∧ Inv wf wf.heap.size (wf.heap.size + 1) n1 K X pos wx) (fun t _ => n1 + 1 - (intOf t).toNat)
            case atStart => exact ⟨0, pos, Nat.zero_le _, hp1, hp2, by omega, rfl, HJ.out⟩
            case round =>
              clear HJ
              obtain ⟨j, pos, hj, hp1, hp2, hor, rfl, hinv⟩ := hrel
              have HJ : Hid _ := hinv
              have HO : Hid _ := hor
              clear hinv hor
              by_cases hjn : j ≤ n1
              · go_wp2_with fail
                refine (zznext_any wf wf.heap.size (wf.heap.size + 1) n1 K X pos wr HJ.out (by omega) k0).mono ?_
                rintro e w2 ⟨rfl, hj2⟩
                have hj3 : ∃ pos' : Nat, s ≤ pos' ∧ pos' ≤ E ∧ (E ≤ pos' ∨ s + (j + 1) ≤ pos') ∧ Inv wf wf.heap.size (wf.heap.size + 1) n1 K X pos' w2 := by
                  have := HO.out
                  by_cases hpe : pos < E
                  · rw [np, if_neg (HE.out pos hp1 hpe)] at hj2
                    exact ⟨pos + 1, by omega, by omega, by omega, hj2⟩
                  · have hpE : pos = E := by omega
                    rw [np, if_pos (by rw [hpE]; exact HKE.out)] at hj2
                    exact ⟨pos, by omega, by omega, by omega, hj2⟩
                obtain ⟨pos', hq1, hq2, hq3, hq4⟩ := hj3
                have HQ3 : Hid _ := hq3
                have HQ4 : Hid _ := hq4
                clear hj2 hq3 hq4 HJ HO
                go_wp2_with fail
                go_roundw
                case rel => exact ⟨j + 1, pos', by omega, hq1, hq2, HQ3.out, by go_num, HQ4.out⟩
                case measure => simp [intOf]; omega
              · have hpE : pos = E := by
                  have := HO.out
                  omega
                subst hpE
                have hk0 : (K pos == 0) = true := by rw [HKE.out]; rfl
                go_wp2_with fail
                refine (pos_any wf wf.heap.size (wf.heap.size + 1) n1 K X pos wr HJ.out).mono ?_
                rintro e w' ⟨rfl, rfl⟩
                go_wp2_with fail
                refine (zznext_any wf wf.heap.size (wf.heap.size + 1) n1 K X pos wr HJ.out (by omega) k0).mono ?_
                rintro e w2 ⟨rfl, hj2⟩
                have hj3 : Inv wf wf.heap.size (wf.heap.size + 1) n1 K X pos w2 := by
                  rw [np, if_pos HKE.out] at hj2
                  exact hj2
                have HJ3 : Hid _ := hj3
                clear hj2 hj3 HJ
                go_wp2_with fail
                refine (pos_any wf wf.heap.size (wf.heap.size + 1) n1 K X pos w2 HJ3.out).mono ?_
                rintro e w' ⟨rfl, rfl⟩
                go_wp2_with fail
                go_ret
                exact ⟨rfl, HB.out.trans (HJ3.out.bel.mono HB.out.size)⟩
end Go.Proofs.Qxb6001685a
