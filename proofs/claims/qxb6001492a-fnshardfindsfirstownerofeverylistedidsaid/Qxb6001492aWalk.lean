import Derived.Test.Qxb6001492aInv
import Derived.Test.Qxb6001492aBytes
import Derived.Test.Qxb6001492aZz
import Derived.BigQuiet
import Derived.Lib.ItoaWalk
import Derived.Deep.QuietTactic
namespace Go.Proofs.Qxb6001492a
open Go.RowKit

set_option maxRecDepth 100000 in
set_option maxHeartbeats 4000000 in
theorem walk (a0 a1 a2 a3 : Option Addr) (n0 n1 n2 n3 c0 c1 c2 c3 : Nat) (I : Nat → Int) (A S E : Nat → ByteArray) (w : World)
    (m0 : n0 ≤ 9223372036854775807) (m1 : n1 ≤ 9223372036854775807) (m2 : n2 ≤ 9223372036854775807) (m3 : n3 ≤ 9223372036854775807)
    (r0 : Row w a0 n0 (ints I)) (r1 : Row w a1 n1 (strs A)) (r2 : Row w a2 n2 (strs S)) (r3 : Row w a3 n3 (strs E)) :
    Calls Try.prog 3 #[.slice a0 n0 c0, .slice a1 n1 c1, .slice a2 n2 c2, .slice a3 n3 c3] w fun e w' => e = .returned (.bool true) ∧ Below w.heap.size w w' := by
  go_enter Try.func3, Try.ntmps3
  go_wp2_with fail
  refine (zz_any a0 a1 a2 a3 n0 n1 n2 n3 c0 c1 c2 c3 A S E w m0 m1 m2 m3 r1 r2 r3).mono ?_
  rintro e w' ⟨⟨β, rfl⟩, rfl⟩
  cases β with
  | false =>
    go_wp2_with fail
    go_ret
    exact ⟨rfl, Below.refl _ _⟩
  | true =>
  by_cases g0 : (1024 : Int) < (n0 : Int)
  · go_wp2_with fail
    go_ret
    exact ⟨rfl, Below.refl _ _⟩
  by_cases g1 : (1024 : Int) < (n1 : Int)
  · go_wp2_with fail
    go_ret
    exact ⟨rfl, Below.refl _ _⟩
  by_cases g2 : (1024 : Int) < (n2 : Int)
  · go_wp2_with fail
    go_ret
    exact ⟨rfl, Below.refl _ _⟩
  by_cases g3 : (1024 : Int) < (n3 : Int)
  · go_wp2_with fail
    go_ret
    exact ⟨rfl, Below.refl _ _⟩
  have d0 : decide ((1024 : Int) < (n0 : Int)) = false := decide_eq_false g0
  have d1 : decide ((1024 : Int) < (n1 : Int)) = false := decide_eq_false g1
  have d2 : decide ((1024 : Int) < (n2 : Int)) = false := decide_eq_false g2
  have d3 : decide ((1024 : Int) < (n3 : Int)) = false := decide_eq_false g3
  have k0 : n0 ≤ 1024 := by omega
  have k1 : n1 ≤ 1024 := by omega
  have k2 : n2 ≤ 1024 := by omega
  have k3 : n3 ≤ 1024 := by omega
  clear g0 g1 g2 g3
  go_wp2_with fail
  clear d0 d1 d2 d3
  refine (bytes_any a0 a1 a2 a3 n0 n1 n2 n3 c0 c1 c2 c3 A S E w m1 m2 m3 r1 r2 r3).mono ?_
  rintro e w' ⟨⟨r, rfl⟩, rfl⟩
  by_cases gr : (1048576 : Int) < r
  · go_wp2_with fail
    go_ret
    exact ⟨rfl, Below.refl _ _⟩
  have dr : decide ((1048576 : Int) < r) = false := decide_eq_false gr
  clear gr
  go_wp2_with fail
  clear dr
  refine (cloneInts_any a0 n0 c0 I w (by omega) r0).mono ?_
  rintro e w1 ⟨⟨a0', c0', rfl, r0'⟩, b1⟩
  go_wp2_with fail
  refine (cloneStrings_any a1 n1 c1 A w1 (by omega) (r1.below b1)).mono ?_
  rintro e w2 ⟨⟨a1', c1', rfl, r1'⟩, b2⟩
  go_wp2_with fail
  refine (cloneStrings_any a2 n2 c2 S w2 (by omega) ((r2.below b1).below b2)).mono ?_
  rintro e w3 ⟨⟨a2', c2', rfl, r2'⟩, b3⟩
  go_wp2_with fail
  refine (cloneStrings_any a3 n3 c3 E w3 (by omega) (((r3.below b1).below b2).below b3)).mono ?_
  rintro e w4 ⟨⟨a3', c3', rfl, r3'⟩, b4⟩
  go_wp2_with fail
  refine (of_any a0' a1' a2' a3' n0 n1 n2 n3 c0' c1' c2' c3' I A S E w4 (by omega) (by omega) (by omega) (by omega) (((r0'.below b2).below b3).below b4) ((r1'.below b3).below b4) (r2'.below b4) r3').mono ?_
  rintro e w5 ⟨n, q, arr, hn, hsz, hsh, rfl, rfl⟩
  have hb : Below w.heap.size w w4 := ((b1.trans (b2.mono b1.size)).trans (b3.mono (Nat.le_trans b1.size b2.size))).trans (b4.mono (Nat.le_trans b1.size (Nat.le_trans b2.size b3.size)))
  obtain ⟨F, hF, hFF⟩ := first_owner I
  have HF : Hid _ := hF
  have HFF : Hid _ := hFF
  have HI : ∀ v0 v2 z, Hid _ := fun v0 v2 z => inv_start w4 n q I A S E F arr hsh v0 v2 z
  clear hF hFF
  have HB : Hid (Below w.heap.size w w4) := hb
  clear r0 r1 r2 r3 r0' r1' r2' r3' b1 b2 b3 b4 hsh hb k0 k1 k2 k3 m0 m1 m2 m3
  have hmk := make28 n hn
  go_wp2_with fail
  have HI0 := HI (.pointer none) (.slice none 0 0) #[.int .i64 0, .string ⟨#[]⟩, .string ⟨#[]⟩, .string ⟨#[]⟩]
  clear HI hmk
  go_loopw [12] (fun i wr => ∃ k : Nat, k ≤ n ∧ i = .int .i64 k ∧ Inv w4 w4.heap.size n I A S E F k wr) (fun i _ => n - (intOf i).toNat)
  case atStart => exact ⟨0, Nat.zero_le _, rfl, HI0.out⟩
  case round =>
    clear HI0
    obtain ⟨k, hk, rfl, hinv⟩ := hrel
    by_cases hkn : k < n
    · have hid := (hinv.sh.2 k hkn).1
      have i0 : (k : Int) < (n : Int) := by omega
      have HV : Hid _ := hinv
      clear hinv
      go_wp2_with fail
      refine (shard_any (w4.heap.size + 1) w4.heap.size n (F k) (I k) I A S E wr hn HV.out.sh (by have := HV.out.sz; omega) HV.out.cl (by have := (HF.out k).1; omega) (HF.out k).2.1 (HF.out k).2.2).mono ?_
      rintro e w7 ⟨rfl, hb7⟩
      have hv7 := HV.out.grow hb7
      have hz7 : w4.heap.size + 1 + 1 < w7.heap.size := hv7.sz
      obtain ⟨v0, e0⟩ : ∃ v, w7.cell? ⟨w4.heap.size + 1 + 1, k * 4, none⟩ = some v := hv7.room _ (by omega)
      obtain ⟨v1, e1⟩ : ∃ v, w7.cell? ⟨w4.heap.size + 1 + 1, k * 4 + 1, none⟩ = some v := hv7.room _ (by omega)
      obtain ⟨v2, e2⟩ : ∃ v, w7.cell? ⟨w4.heap.size + 1 + 1, k * 4 + 2, none⟩ = some v := hv7.room _ (by omega)
      obtain ⟨v3, e3⟩ : ∃ v, w7.cell? ⟨w4.heap.size + 1 + 1, k * 4 + 3, none⟩ = some v := hv7.room _ (by omega)
      have hf7 : ∀ o, w7.frozen? ⟨w4.heap.size + 1 + 1, o, none⟩ = false := hv7.free
      have HV8 : Hid (Inv w4 w4.heap.size n I A S E F (k + 1) _) := (hv7.put hkn).laid (.cells #[.int .i64 (I (F k)), .string (A (F k)), .string (S (F k)), .string (E (F k))] 35)
      clear HV hv7 hb7 hid
      go_wp2_with fail
      go_name_world wz hwz
      have hv8 : Inv w4 w4.heap.size n I A S E F (k + 1) wz := by rw [← hwz]; exact HV8.out
      have x0 : wz.cell? ⟨w7.heap.size, 0, none⟩ = some (.int .i64 (I (F k))) := by rw [← hwz]; exact World.cell?_alloc_at _ _ _ _ (by simp)
      have x1 : wz.cell? ⟨w7.heap.size, 1, none⟩ = some (.string (A (F k))) := by rw [← hwz]; exact World.cell?_alloc_at _ _ _ _ (by simp)
      have x2 : wz.cell? ⟨w7.heap.size, 2, none⟩ = some (.string (S (F k))) := by rw [← hwz]; exact World.cell?_alloc_at _ _ _ _ (by simp)
      have x3 : wz.cell? ⟨w7.heap.size, 3, none⟩ = some (.string (E (F k))) := by rw [← hwz]; exact World.cell?_alloc_at _ _ _ _ (by simp)
      obtain ⟨y0, y1, y2, y3⟩ := hv8.sh.2 k hkn
      have HV9 : Hid _ := hv8
      clear hwz HV8 hv8 e0 e1 e2 e3 hf7 hz7 v0 v1 v2 v3
      go_loopw [15, 16] (fun ea j wx => ∃ (jj q : Nat) (β : Bool), jj ≤ k ∧ ea = .bool β ∧ j = .int .i64 jj ∧ Hid (β = true ↔ ∃ l, l < jj ∧ I l = I k) ∧ wx = wz.drewN q) (fun _ j _ => k - (intOf j).toNat)
      case atStart => exact ⟨0, 0, false, Nat.zero_le _, rfl, rfl, by simp [Hid], rfl⟩
      case round =>
        obtain ⟨jj, q, β, hjj, rfl, rfl, HBt, rfl⟩ := hrel
        by_cases hjk : jj < k
        · obtain ⟨z0, -, -, -⟩ := HV9.out.sh.2 jj (by omega)
          have j1 : (jj : Int) < (n : Int) := by omega
          have j2 : (0 : Int) ≤ (jj : Int) := by omega
          by_cases hI : I jj = I k
          · have hFe := HFF.out jj k hI
            obtain ⟨g0, g1, g2, g3⟩ : wz.cell? ⟨w4.heap.size + 1 + 1, jj * 4, none⟩ = some (.int .i64 (I (F k))) ∧ wz.cell? ⟨w4.heap.size + 1 + 1, jj * 4 + 1, none⟩ = some (.string (A (F k))) ∧ wz.cell? ⟨w4.heap.size + 1 + 1, jj * 4 + 2, none⟩ = some (.string (S (F k))) ∧ wz.cell? ⟨w4.heap.size + 1 + 1, jj * 4 + 3, none⟩ = some (.string (E (F k))) := by
              rw [← hFe]
              exact HV9.out.got.2 jj (by omega)
            rw [hI] at z0
            have HBn : Hid (∃ l, l < jj + 1 ∧ I l = I k) := ⟨jj, by omega, hI⟩
            clear hI hFe HBt
            go_wp2_with fail
            go_quiet (fail)
            go_wp2_with fail
            go_quiet (fail)
            go_wp2_with fail
            go_roundw
            case rel => exact ⟨jj + 1, _, true, by omega, rfl, by go_num, ⟨fun _ => HBn.out, fun _ => rfl⟩, rfl⟩
            case measure => simp [intOf]; omega
          · have hIb : (I jj == I k) = false := by simp [hI]
            have HBn : Hid (β = true ↔ ∃ l, l < jj + 1 ∧ I l = I k) := by
              rw [Hid, HBt.out]
              constructor
              · rintro ⟨l, hl, e⟩
                exact ⟨l, by omega, e⟩
              · rintro ⟨l, hl, e⟩
                refine ⟨l, ?_, e⟩
                by_cases el : l = jj
                · subst el
                  exact absurd e hI
                · omega
            clear hI HBt
            go_wp2_with fail
            go_quiet (fail)
            go_wp2_with fail
            go_roundw
            case rel => exact ⟨jj + 1, _, β, by omega, rfl, by go_num, HBn, rfl⟩
            case measure => simp [intOf]; omega
        · have hjk2 : jj = k := by omega
          subst hjk2
          cases β with
          | true =>
            clear HBt
            go_wp2_with fail
            go_quiet (fail)
            go_wp2_with fail
            go_roundw
            case rel => exact ⟨jj + 1, by omega, by go_num, HV9.out.drawn _⟩
            case measure => simp [intOf]; omega
          | false =>
            have hFk : F jj = jj := by
              have h1 := HF.out jj
              rcases Nat.lt_or_ge (F jj) jj with h | h
              · have := HBt.out.2 ⟨F jj, h, h1.2.1⟩
                cases this
              · omega
            rw [hFk] at x0 x1 x2 x3
            clear HBt hFk
            go_wp2_with fail
            go_quiet (fail)
            go_wp2_with fail
            go_roundw
            case rel => exact ⟨jj + 1, by omega, by go_num, HV9.out.drawn _⟩
            case measure => simp [intOf]; omega
    · go_wp2_with fail
      go_ret
      exact ⟨rfl, HB.out.trans (hinv.bel.mono HB.out.size)⟩
end Go.Proofs.Qxb6001492a
