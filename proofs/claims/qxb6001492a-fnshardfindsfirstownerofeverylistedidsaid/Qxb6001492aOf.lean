import Derived.Test.Qxb6001492aClone
import Derived.BigRegion
import Derived.Deep.Draws
import Derived.Deep.DeepCutAuto
namespace Go.Proofs.Qxb6001492a
open Go.RowKit

theorem info35 : (Try.prog.info? 35).map (fun i => (i.zero, i.size, i.bytes)) = some (some (.agg #[.int .i64 0, .string ⟨#[]⟩, .string ⟨#[]⟩, .string ⟨#[]⟩]), 4, 56) := by kernel_rfl

theorem make28 (n : Nat) (hn : n ≤ 65536) (w : World) :
    (Instr.makeSlice 28 (.int .i64 (n : Int)) (.int .i64 (n : Int))).run Try.prog w = .ok (.slice (some ⟨w.heap.size, 0, none⟩) n n) (w.alloc (.cells (madeCells #[.int .i64 0, .string ⟨#[]⟩, .string ⟨#[]⟩, .string ⟨#[]⟩] (n * 4)) 35)) := by
  obtain ⟨i, hi, hzz⟩ := Option.map_eq_some_iff.1 info35
  simp only [Prod.mk.injEq] at hzz
  obtain ⟨hz, hs, hb⟩ := hzz
  have hr := run_make (P := Try.prog) w 28 35 i _ Try.underlying28 hi hz .i64 .i64 n n (by omega) (Int.le_refl _) (by rw [hb]; omega) (by omega)
  simp only [Int.toNat_natCast, hs] at hr
  exact hr

/-- Four cells stored from place p on. -/
def set4 (arr : Array Value) (p : Nat) (v0 v1 v2 v3 : Value) : Array Value := (((arr.setIfInBounds p v0).setIfInBounds (p + 1) v1).setIfInBounds (p + 2) v2).setIfInBounds (p + 3) v3
theorem size_set4 (arr : Array Value) (p : Nat) (v0 v1 v2 v3 : Value) : (set4 arr p v0 v1 v2 v3).size = arr.size := by simp [set4]
theorem store4 (w : World) (arr : Array Value) (t p q : Nat) (v0 v1 v2 v3 : Value) :
    (((((w.alloc (.cells arr t)).drewN q).setCell ⟨w.heap.size, p, none⟩ v0).setCell ⟨w.heap.size, p + 1, none⟩ v1).setCell ⟨w.heap.size, p + 2, none⟩ v2).setCell ⟨w.heap.size, p + 3, none⟩ v3
      = (w.alloc (.cells (set4 arr p v0 v1 v2 v3) t)).drewN q := by
  have e : ∀ (x : World) (a : Addr) (v : Value), (x.drewN q).setCell a v = (x.setCell a v).drewN q := fun _ _ _ => rfl
  rw [e, e, e, e, World.setCell_alloc_at _ _ _ _ _ rfl, World.setCell_alloc_at _ _ _ _ _ rfl, World.setCell_alloc_at _ _ _ _ _ rfl, World.setCell_alloc_at _ _ _ _ _ rfl]
  rfl
theorem get_set4 (arr : Array Value) (p : Nat) (v0 v1 v2 v3 : Value) (h : p + 3 < arr.size) (i : Nat) :
    (set4 arr p v0 v1 v2 v3)[i]? = if i = p then some v0 else if i = p + 1 then some v1 else if i = p + 2 then some v2 else if i = p + 3 then some v3 else arr[i]? := by
  unfold set4
  rw [Array.getElem?_setIfInBounds, Array.getElem?_setIfInBounds, Array.getElem?_setIfInBounds, Array.getElem?_setIfInBounds]
  simp only [Array.size_setIfInBounds]
  repeat' split
  all_goals first | rfl | omega | (simp; omega)

theorem cell_past (w : World) (arr : Array Value) (t q b o : Nat) (v : Value) (hb : b < w.heap.size) (h : w.cell? ⟨b, o, none⟩ = some v) : ((w.alloc (.cells arr t)).drewN q).cell? ⟨b, o, none⟩ = some v :=
  (World.cell?_alloc_past _ _ _ hb).trans h
theorem cell_own (w : World) (arr : Array Value) (t q o : Nat) (h : o < arr.size) : ∃ v, ((w.alloc (.cells arr t)).drewN q).cell? ⟨w.heap.size, o, none⟩ = some v :=
  ⟨arr[o], (World.cell?_alloc_at arr t w.heap.size o rfl).trans (by simp [h])⟩
theorem frozen_own (w : World) (arr : Array Value) (t q o : Nat) : ((w.alloc (.cells arr t)).drewN q).frozen? ⟨w.heap.size, o, none⟩ = false :=
  World.frozen?_alloc_at arr t w.heap.size o rfl

/-- The first k shards of a row. -/
def Shs (arr : Array Value) (k : Nat) (I : Nat → Int) (A S E : Nat → ByteArray) : Prop :=
  ∀ i, i < k → arr[i * 4]? = some (.int .i64 (I i)) ∧ arr[i * 4 + 1]? = some (.string (A i)) ∧ arr[i * 4 + 2]? = some (.string (S i)) ∧ arr[i * 4 + 3]? = some (.string (E i))

theorem Shs.step {arr : Array Value} {k : Nat} {I : Nat → Int} {A S E : Nat → ByteArray} (h : Shs arr k I A S E) (hs : k * 4 + 3 < arr.size) :
    Shs (set4 arr (k * 4) (.int .i64 (I k)) (.string (A k)) (.string (S k)) (.string (E k))) (k + 1) I A S E := by
  intro i hi
  simp only [get_set4 _ _ _ _ _ _ hs]
  by_cases e : i = k
  · subst e
    simp
  · obtain ⟨h0, h1, h2, h3⟩ := h i (by omega)
    have e0 : ¬ i * 4 = k * 4 := by omega
    refine ⟨?_, ?_, ?_, ?_⟩
    · rw [if_neg (by omega), if_neg (by omega), if_neg (by omega), if_neg (by omega)]; exact h0
    · rw [if_neg (by omega), if_neg (by omega), if_neg (by omega), if_neg (by omega)]; exact h1
    · rw [if_neg (by omega), if_neg (by omega), if_neg (by omega), if_neg (by omega)]; exact h2
    · rw [if_neg (by omega), if_neg (by omega), if_neg (by omega), if_neg (by omega)]; exact h3

theorem Row.some {w : World} {a : Option Addr} {n : Nat} {V : Nat → Value} (h : Row w a n V) (hn : 0 < n) : ∃ b off, a = Option.some ⟨b, off, none⟩ ∧ b < w.heap.size ∧ ∀ i, i < n → w.cell? ⟨b, off + i, none⟩ = Option.some (V i) := by
  rcases h with h | h
  · have := h.out
    omega
  · exact h

set_option maxHeartbeats 1000000 in
theorem of_any (a0 a1 a2 a3 : Option Addr) (n0 n1 n2 n3 c0 c1 c2 c3 : Nat) (I : Nat → Int) (A S E : Nat → ByteArray) (w : World) (m0 : n0 ≤ 65536) (m1 : n1 ≤ 65536) (m2 : n2 ≤ 65536) (m3 : n3 ≤ 65536)
    (r0 : Row w a0 n0 (ints I)) (r1 : Row w a1 n1 (strs A)) (r2 : Row w a2 n2 (strs S)) (r3 : Row w a3 n3 (strs E)) :
    Calls Try.prog 10 #[.slice a0 n0 c0, .slice a1 n1 c1, .slice a2 n2 c2, .slice a3 n3 c3] w fun e w' =>
      ∃ (n q : Nat) (arr : Array Value), n ≤ 65536 ∧ arr.size = n * 4 ∧ Shs arr n I A S E ∧ e = .returned (.slice (Option.some ⟨w.heap.size, 0, none⟩) n n) ∧ w' = (w.alloc (.cells arr 35)).drewN q := by
  have hsplit : Hid (n0 = 0 ∨ n1 = 0 ∨ n2 = 0 ∨ n3 = 0) ∨ (0 < n0 ∧ 0 < n1 ∧ 0 < n2 ∧ 0 < n3) := by
    unfold Hid
    omega
  rcases hsplit with hpos | ⟨h0, h1, h2, h3⟩
  case' inr =>
    obtain ⟨b0, o0, rfl, l0, x0⟩ := r0.some h0
    obtain ⟨b1, o1, rfl, l1, x1⟩ := r1.some h1
    obtain ⟨b2, o2, rfl, l2, x2⟩ := r2.some h2
    obtain ⟨b3, o3, rfl, l3, x3⟩ := r3.some h3
  all_goals
    clear r0 r1 r2 r3
    go_enter Try.func10, Try.ntmps10
    go_upto_if 17 with fail
    go_cut [9] (fun s wx => ∃ m : Nat, m ≤ n0 ∧ m ≤ n1 ∧ s = .int .i64 m ∧ w = wx)
    case first =>
      go_wp2
      · go_meet
        case rel => exact ⟨n1, by omega, by omega, rfl, rfl⟩
      · go_meet
        case rel => exact ⟨n0, by omega, by omega, rfl, rfl⟩
    case rest =>
      obtain ⟨m, g0, g1, rfl, rfl⟩ := hcut
      go_upto_if 23 with fail
      go_cut [9] (fun s wx => ∃ m : Nat, m ≤ n0 ∧ m ≤ n1 ∧ m ≤ n2 ∧ s = .int .i64 m ∧ w = wx)
      case first =>
        go_wp2
        · go_meet
          case rel => exact ⟨n2, by omega, by omega, by omega, rfl, rfl⟩
        · go_meet
          case rel => exact ⟨m, by omega, by omega, by omega, rfl, rfl⟩
      case rest =>
        clear g0 g1
        obtain ⟨m, g0, g1, g2, rfl, rfl⟩ := hcut
        go_upto_if 29 with fail
        go_cut [9] (fun s wx => ∃ m : Nat, m ≤ n0 ∧ m ≤ n1 ∧ m ≤ n2 ∧ m ≤ n3 ∧ s = .int .i64 m ∧ w = wx)
        case first =>
          go_wp2
          · go_meet
            case rel => exact ⟨n3, by omega, by omega, by omega, by omega, rfl, rfl⟩
          · go_meet
            case rel => exact ⟨m, by omega, by omega, by omega, by omega, rfl, rfl⟩
        case rest =>
          clear g0 g1 g2
          obtain ⟨n, g0, g1, g2, g3, rfl, rfl⟩ := hcut
          have hmk := make28 n (by omega)
          go_wp2
          go_loopw [11] (fun i wr => ∃ (k q : Nat) (arr : Array Value), k ≤ n ∧ arr.size = n * 4 ∧ Hid (Shs arr k I A S E) ∧ i = .int .i64 k ∧ wr = (w.alloc (.cells arr 35)).drewN q) (fun i _ => n - (intOf i).toNat)
          case atStart => exact ⟨0, 0, _, Nat.zero_le _, size_madeCells _ _, fun i hi => absurd hi (Nat.not_lt_zero _), rfl, rfl⟩
          case round =>
            obtain ⟨k, q, arr, hk, hs, HA, rfl, rfl⟩ := hrel
            by_cases hkn : k < n
            · first
              | (exfalso; have := hpos.out; omega)
              | (have y0 : w.cell? ⟨b0, o0 + k, none⟩ = Option.some (.int .i64 (I k)) := x0 k (by omega)
                 have y1 : w.cell? ⟨b1, o1 + k, none⟩ = Option.some (.string (A k)) := x1 k (by omega)
                 have y2 : w.cell? ⟨b2, o2 + k, none⟩ = Option.some (.string (S k)) := x2 k (by omega)
                 have y3 : w.cell? ⟨b3, o3 + k, none⟩ = Option.some (.string (E k)) := x3 k (by omega)
                 clear x0 x1 x2 x3
                 have HN : Hid (Shs (set4 arr (k * 4) (.int .i64 (I k)) (.string (A k)) (.string (S k)) (.string (E k))) (k + 1) I A S E) := HA.out.step (by omega)
                 clear HA
                 have i0 : (0 : Int) ≤ (k : Int) := by omega
                 have i1 : (k : Int) < (n0 : Int) := by omega
                 have i2 : (k : Int) < (n1 : Int) := by omega
                 have i3 : (k : Int) < (n2 : Int) := by omega
                 have i4 : (k : Int) < (n3 : Int) := by omega
                 have i5 : (k : Int) < (n : Int) := by omega
                 obtain ⟨wq, hwq⟩ : ∃ wq, (w.alloc (.cells arr 35)).drewN q = wq := ⟨_, rfl⟩
                 have z0 : wq.cell? ⟨b0, o0 + k, none⟩ = Option.some (.int .i64 (I k)) := by rw [← hwq]; exact cell_past _ _ _ _ _ _ _ l0 y0
                 have z1 : wq.cell? ⟨b1, o1 + k, none⟩ = Option.some (.string (A k)) := by rw [← hwq]; exact cell_past _ _ _ _ _ _ _ l1 y1
                 have z2 : wq.cell? ⟨b2, o2 + k, none⟩ = Option.some (.string (S k)) := by rw [← hwq]; exact cell_past _ _ _ _ _ _ _ l2 y2
                 have z3 : wq.cell? ⟨b3, o3 + k, none⟩ = Option.some (.string (E k)) := by rw [← hwq]; exact cell_past _ _ _ _ _ _ _ l3 y3
                 obtain ⟨v0, e0⟩ : ∃ v, wq.cell? ⟨w.heap.size, k * 4, none⟩ = Option.some v := by rw [← hwq]; exact cell_own _ _ _ _ _ (by omega)
                 obtain ⟨v1, e1⟩ : ∃ v, wq.cell? ⟨w.heap.size, k * 4 + 1, none⟩ = Option.some v := by rw [← hwq]; exact cell_own _ _ _ _ _ (by omega)
                 obtain ⟨v2, e2⟩ : ∃ v, wq.cell? ⟨w.heap.size, k * 4 + 2, none⟩ = Option.some v := by rw [← hwq]; exact cell_own _ _ _ _ _ (by omega)
                 obtain ⟨v3, e3⟩ : ∃ v, wq.cell? ⟨w.heap.size, k * 4 + 3, none⟩ = Option.some v := by rw [← hwq]; exact cell_own _ _ _ _ _ (by omega)
                 have f : ∀ o, wq.frozen? ⟨w.heap.size, o, none⟩ = false := by intro o; rw [← hwq]; exact frozen_own _ _ _ _ _
                 rw [hwq]
                 have HW : Hid _ := hwq
                 clear hwq y0 y1 y2 y3 l0 l1 l2 l3
                 go_wp2
                 go_region
                 all_goals
                   go_wp2
                   go_roundw
                   case rel => exact ⟨k + 1, q + 1, _, by omega, by rw [size_set4]; exact hs, HN, by go_num, by rw [← HW.out]; exact congrArg World.drew (store4 w arr 35 (k * 4) q _ _ _ _)⟩
                   case measure => simp [intOf]; omega)
            · go_wp2
              go_ret
              have hke : k = n := by omega
              subst hke
              exact ⟨k, q, arr, by omega, hs, HA.out, rfl, rfl⟩
end Go.Proofs.Qxb6001492a
