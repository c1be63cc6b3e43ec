import Derived.Test.Qxb6001685aParser
namespace Go.Proofs.Qxb6001685a
open Go.RowKit

theorem info45 : (Try.prog.info? 45).map (fun i => (i.zero, i.size, i.bytes)) = some (some (.agg #[.int .u8 0, .string ⟨#[]⟩, .int .i64 0]), 3, 32) := by kernel_rfl

theorem make42 (n : Nat) (hn : n ≤ 65536) (w : World) :
    (Instr.makeSlice 42 (.int .i64 (n : Int)) (.int .i64 (n : Int))).run Try.prog w = .ok (.slice (some ⟨w.heap.size, 0, none⟩) n n) (w.alloc (.cells (madeCells #[.int .u8 0, .string ⟨#[]⟩, .int .i64 0] (n * 3)) 45)) := by
  obtain ⟨i, hi, hzz⟩ := Option.map_eq_some_iff.1 info45
  simp only [Prod.mk.injEq] at hzz
  obtain ⟨hz, hs, hb⟩ := hzz
  have hr := run_make (P := Try.prog) w 42 45 i _ Try.underlying42 hi hz .i64 .i64 n n (by omega) (Int.le_refl _) (by rw [hb]; omega) (by omega)
  simp only [Int.toNat_natCast, hs] at hr
  exact hr

/-- Three cells stored from place p on. -/
def set3 (arr : Array Value) (p : Nat) (v0 v1 v2 : Value) : Array Value := ((arr.setIfInBounds p v0).setIfInBounds (p + 1) v1).setIfInBounds (p + 2) v2
theorem size_set3 (arr : Array Value) (p : Nat) (v0 v1 v2 : Value) : (set3 arr p v0 v1 v2).size = arr.size := by simp [set3]
theorem store3 (w : World) (arr : Array Value) (t p q : Nat) (v0 v1 v2 : Value) :
    ((((w.alloc (.cells arr t)).drewN q).setCell ⟨w.heap.size, p, none⟩ v0).setCell ⟨w.heap.size, p + 1, none⟩ v1).setCell ⟨w.heap.size, p + 2, none⟩ v2
      = (w.alloc (.cells (set3 arr p v0 v1 v2) t)).drewN q := by
  have e : ∀ (x : World) (a : Addr) (v : Value), (x.drewN q).setCell a v = (x.setCell a v).drewN q := fun _ _ _ => rfl
  rw [e, e, e, World.setCell_alloc_at _ _ _ _ _ rfl, World.setCell_alloc_at _ _ _ _ _ rfl, World.setCell_alloc_at _ _ _ _ _ rfl]
  rfl
theorem get_set3 (arr : Array Value) (p : Nat) (v0 v1 v2 : Value) (h : p + 2 < arr.size) (i : Nat) :
    (set3 arr p v0 v1 v2)[i]? = if i = p then some v0 else if i = p + 1 then some v1 else if i = p + 2 then some v2 else arr[i]? := by
  unfold set3
  rw [Array.getElem?_setIfInBounds, Array.getElem?_setIfInBounds, Array.getElem?_setIfInBounds]
  simp only [Array.size_setIfInBounds]
  repeat' split
  all_goals first | rfl | omega | (simp; omega)

theorem cell_past (w : World) (arr : Array Value) (t q b o : Nat) (v : Value) (hb : b < w.heap.size) (h : w.cell? ⟨b, o, none⟩ = some v) : ((w.alloc (.cells arr t)).drewN q).cell? ⟨b, o, none⟩ = some v :=
  (World.cell?_alloc_past _ _ _ hb).trans h
theorem cell_own (w : World) (arr : Array Value) (t q o : Nat) (h : o < arr.size) : ∃ v, ((w.alloc (.cells arr t)).drewN q).cell? ⟨w.heap.size, o, none⟩ = some v :=
  ⟨arr[o], (World.cell?_alloc_at arr t w.heap.size o rfl).trans (by simp [h])⟩
theorem frozen_own (w : World) (arr : Array Value) (t q o : Nat) : ((w.alloc (.cells arr t)).drewN q).frozen? ⟨w.heap.size, o, none⟩ = false :=
  World.frozen?_alloc_at arr t w.heap.size o rfl

/-- The first k tokens of a row. -/
def Toks (arr : Array Value) (k : Nat) (K : Nat → Int) (X : Nat → ByteArray) : Prop :=
  ∀ i, i < k → arr[i * 3]? = some (.int .u8 (K i)) ∧ arr[i * 3 + 1]? = some (.string (X i)) ∧ arr[i * 3 + 2]? = some (.int .i64 (i : Int))

theorem Toks.step {arr : Array Value} {k : Nat} {K : Nat → Int} {X : Nat → ByteArray} (h : Toks arr k K X) (hs : k * 3 + 2 < arr.size) :
    Toks (set3 arr (k * 3) (.int .u8 (K k)) (.string (X k)) (.int .i64 (k : Int))) (k + 1) K X := by
  intro i hi
  simp only [get_set3 _ _ _ _ _ hs]
  by_cases e : i = k
  · subst e
    simp
  · obtain ⟨h0, h1, h2⟩ := h i (by omega)
    refine ⟨?_, ?_, ?_⟩
    · rw [if_neg (by omega), if_neg (by omega), if_neg (by omega)]; exact h0
    · rw [if_neg (by omega), if_neg (by omega), if_neg (by omega)]; exact h1
    · rw [if_neg (by omega), if_neg (by omega), if_neg (by omega)]; exact h2

theorem inv_start (w : World) (n q st : Nat) (K : Nat → Int) (X : Nat → ByteArray) (arr : Array Value) (h : Toks arr n K X) (v0 : Value) :
    Inv w w.heap.size (w.heap.size + 1) n K X st (((w.alloc (.cells arr 45)).drewN q).alloc (.cells #[v0, .slice (some ⟨w.heap.size, 0, none⟩) n n, .int .i64 (st : Int)] 47)) := by
  have s1 : ((w.alloc (.cells arr 45)).drewN q).heap.size = w.heap.size + 1 := by simp
  have hb1 : Below w.heap.size w ((w.alloc (.cells arr 45)).drewN q) := ⟨rfl, rfl, rfl, by rw [s1]; omega, ((Below.refl w.heap.size w).alloc (Nat.le_refl _) (.cells arr 45)).block⟩
  have hs1 : ∀ i, i < n → ((w.alloc (.cells arr 45)).drewN q).cell? ⟨w.heap.size, i * 3, none⟩ = some (.int .u8 (K i)) ∧ ((w.alloc (.cells arr 45)).drewN q).cell? ⟨w.heap.size, i * 3 + 1, none⟩ = some (.string (X i)) ∧ ((w.alloc (.cells arr 45)).drewN q).cell? ⟨w.heap.size, i * 3 + 2, none⟩ = some (.int .i64 (i : Int)) := by
    intro i hi
    obtain ⟨h0, h1, h2⟩ := h i hi
    exact ⟨(World.cell?_alloc_at arr 45 w.heap.size _ rfl).trans h0, (World.cell?_alloc_at arr 45 w.heap.size _ rfl).trans h1, (World.cell?_alloc_at arr 45 w.heap.size _ rfl).trans h2⟩
  generalize (w.alloc (.cells arr 45)).drewN q = w5 at *
  have hbc : Below w5.heap.size w5 (w5.alloc (.cells #[v0, .slice (some ⟨w.heap.size, 0, none⟩) n n, .int .i64 (st : Int)] 47)) := (Below.refl _ _).alloc (Nat.le_refl _) _
  have s2 : (w5.alloc (.cells #[v0, .slice (some ⟨w.heap.size, 0, none⟩) n n, .int .i64 (st : Int)] 47)).heap.size = w.heap.size + 2 := by simp [s1]
  refine ⟨hb1.trans (hbc.mono (by omega)), ⟨by omega, fun i hi => ?_⟩, by omega, by omega, ?_, ?_, ?_⟩
  · obtain ⟨h0, h1, h2⟩ := hs1 i hi
    have hz : w.heap.size < w5.heap.size := by omega
    exact ⟨(hbc.cell (p := ⟨w.heap.size, i * 3, none⟩) hz).trans h0, (hbc.cell (p := ⟨w.heap.size, i * 3 + 1, none⟩) hz).trans h1, (hbc.cell (p := ⟨w.heap.size, i * 3 + 2, none⟩) hz).trans h2⟩
  · exact (World.cell?_alloc_at _ 47 (w.heap.size + 1) 1 s1.symm).trans rfl
  · exact (World.cell?_alloc_at _ 47 (w.heap.size + 1) 2 s1.symm).trans rfl
  · exact World.frozen?_alloc_at _ 47 (w.heap.size + 1) 2 s1.symm

theorem Row.some {w : World} {a : Option Addr} {n : Nat} {V : Nat → Value} (h : Row w a n V) (hn : 0 < n) : ∃ b off, a = Option.some ⟨b, off, none⟩ ∧ b < w.heap.size ∧ ∀ i, i < n → w.cell? ⟨b, off + i, none⟩ = Option.some (V i) := by
  rcases h with h | h
  · have := h.out
    omega
  · exact h

set_option maxHeartbeats 1000000 in
theorem new_any (a0 a1 : Option Addr) (n c0 c1 st : Nat) (K : Nat → Int) (X : Nat → ByteArray) (w : World) (hn0 : 0 < n) (hn : n ≤ 65536) (r0 : Row w a0 n (bytes K)) (r1 : Row w a1 n (strs X)) :
    Calls Try.prog 20 #[.slice a0 n c0, .slice a1 n c1, .int .i64 (st : Int)] w fun e w' => e = .returned (.pointer (Option.some ⟨w.heap.size + 1, 0, none⟩)) ∧ Inv w w.heap.size (w.heap.size + 1) n K X st w' := by
  obtain ⟨b0, o0, rfl, l0, x0⟩ := r0.some hn0
  obtain ⟨b1, o1, rfl, l1, x1⟩ := r1.some hn0
  clear r0 r1
  have hmk := make42 n hn
  go_enter Try.func20, Try.ntmps20
  go_wp2
  clear hmk
  go_loopw [8] (fun i wr => ∃ (k q : Nat) (arr : Array Value), k ≤ n ∧ arr.size = n * 3 ∧ Hid (Toks arr k K X) ∧ i = .int .i64 k ∧ wr = (w.alloc (.cells arr 45)).drewN q) (fun i _ => n - (intOf i).toNat)
  case atStart => exact ⟨0, 0, _, Nat.zero_le _, size_madeCells _ _, fun i hi => absurd hi (Nat.not_lt_zero _), rfl, rfl⟩
  case round =>
    obtain ⟨k, q, arr, hk, hs, HA, rfl, rfl⟩ := hrel
    by_cases hkn : k < n
    · have y0 : w.cell? ⟨b0, o0 + k, none⟩ = Option.some (.int .u8 (K k)) := x0 k (by omega)
      have y1 : w.cell? ⟨b1, o1 + k, none⟩ = Option.some (.string (X k)) := x1 k (by omega)
      clear x0 x1
      have HN : Hid (Toks (set3 arr (k * 3) (.int .u8 (K k)) (.string (X k)) (.int .i64 (k : Int))) (k + 1) K X) := HA.out.step (by omega)
      clear HA
      have i0 : (0 : Int) ≤ (k : Int) := by omega
      have i1 : (k : Int) < (n : Int) := by omega
      obtain ⟨wq, hwq⟩ : ∃ wq, (w.alloc (.cells arr 45)).drewN q = wq := ⟨_, rfl⟩
      have z0 : wq.cell? ⟨b0, o0 + k, none⟩ = Option.some (.int .u8 (K k)) := by rw [← hwq]; exact cell_past _ _ _ _ _ _ _ l0 y0
      have z1 : wq.cell? ⟨b1, o1 + k, none⟩ = Option.some (.string (X k)) := by rw [← hwq]; exact cell_past _ _ _ _ _ _ _ l1 y1
      obtain ⟨v0, e0⟩ : ∃ v, wq.cell? ⟨w.heap.size, k * 3, none⟩ = Option.some v := by rw [← hwq]; exact cell_own _ _ _ _ _ (by omega)
      obtain ⟨v1, e1⟩ : ∃ v, wq.cell? ⟨w.heap.size, k * 3 + 1, none⟩ = Option.some v := by rw [← hwq]; exact cell_own _ _ _ _ _ (by omega)
      obtain ⟨v2, e2⟩ : ∃ v, wq.cell? ⟨w.heap.size, k * 3 + 2, none⟩ = Option.some v := by rw [← hwq]; exact cell_own _ _ _ _ _ (by omega)
      have f : ∀ o, wq.frozen? ⟨w.heap.size, o, none⟩ = false := by intro o; rw [← hwq]; exact frozen_own _ _ _ _ _
      rw [hwq]
      have HW : Hid _ := hwq
      clear hwq y0 y1 l0 l1
      go_wp2
      go_region
      all_goals
        go_wp2
        go_roundw
        case rel => exact ⟨k + 1, q + 1, _, by omega, by rw [size_set3]; exact hs, HN, by go_num, by rw [← HW.out]; exact congrArg World.drew (store3 w arr 45 (k * 3) q _ _ _)⟩
        case measure => simp [intOf]; omega
    · have hke : k = n := by omega
      subst hke
      have HI : Hid _ := inv_start w k q st K X arr HA.out (.string ⟨#[]⟩)
      clear HA
      go_wp2
      go_ret
      exact ⟨rfl, HI.out⟩
end Go.Proofs.Qxb6001685a
