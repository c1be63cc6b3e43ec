import Derived.Test.Qxb6001492aOf
namespace Go.Proofs.Qxb6001492a
open Go.RowKit

/-- The n shards that lie in block b. -/
def ShsIn (w : World) (b n : Nat) (I : Nat → Int) (A S E : Nat → ByteArray) : Prop :=
  b < w.heap.size ∧ ∀ i, i < n → w.cell? ⟨b, i * 4, none⟩ = some (.int .i64 (I i)) ∧ w.cell? ⟨b, i * 4 + 1, none⟩ = some (.string (A i)) ∧ w.cell? ⟨b, i * 4 + 2, none⟩ = some (.string (S i)) ∧ w.cell? ⟨b, i * 4 + 3, none⟩ = some (.string (E i))

theorem ShsIn.below {w w' : World} {B b n : Nat} {I : Nat → Int} {A S E : Nat → ByteArray} (h : ShsIn w b n I A S E) (hb : Below B w w') (hB : b < B) : ShsIn w' b n I A S E := by
  refine ⟨Nat.lt_of_lt_of_le h.1 hb.size, fun i hi => ?_⟩
  obtain ⟨h0, h1, h2, h3⟩ := h.2 i hi
  exact ⟨(hb.cell (p := ⟨b, i * 4, none⟩) hB).trans h0, (hb.cell (p := ⟨b, i * 4 + 1, none⟩) hB).trans h1, (hb.cell (p := ⟨b, i * 4 + 2, none⟩) hB).trans h2, (hb.cell (p := ⟨b, i * 4 + 3, none⟩) hB).trans h3⟩

def zero35 : Obj := .cells #[.int .i64 0, .string ⟨#[]⟩, .string ⟨#[]⟩, .string ⟨#[]⟩] 35

theorem zero_cells {w wr : World} (hb : Below (w.heap.size + 1) (w.alloc zero35) wr) :
    wr.cell? ⟨w.heap.size, 0, none⟩ = some (.int .i64 0) ∧ wr.cell? ⟨w.heap.size, 1, none⟩ = some (.string ⟨#[]⟩) ∧ wr.cell? ⟨w.heap.size, 2, none⟩ = some (.string ⟨#[]⟩) ∧ wr.cell? ⟨w.heap.size, 3, none⟩ = some (.string ⟨#[]⟩) ∧
    ∀ o, wr.frozen? ⟨w.heap.size, o, none⟩ = false := by
  refine ⟨?_, ?_, ?_, ?_, fun o => ?_⟩
  · exact (hb.cell (p := ⟨w.heap.size, 0, none⟩) (by simp)).trans (World.cell?_alloc_at _ _ _ _ rfl)
  · exact (hb.cell (p := ⟨w.heap.size, 1, none⟩) (by simp)).trans (World.cell?_alloc_at _ _ _ _ rfl)
  · exact (hb.cell (p := ⟨w.heap.size, 2, none⟩) (by simp)).trans (World.cell?_alloc_at _ _ _ _ rfl)
  · exact (hb.cell (p := ⟨w.heap.size, 3, none⟩) (by simp)).trans (World.cell?_alloc_at _ _ _ _ rfl)
  · exact (hb.frozen (p := ⟨w.heap.size, o, none⟩) (by simp)).trans (World.frozen?_alloc_at _ _ _ _ rfl)

set_option maxHeartbeats 1000000 in
theorem shard_any (cb b n j : Nat) (x : Int) (I : Nat → Int) (A S E : Nat → ByteArray) (w : World) (hn : n ≤ 65536) (hs : ShsIn w b n I A S E) (hcb : cb < w.heap.size)
    (hc : w.cell? ⟨cb, 1, none⟩ = some (.slice (some ⟨b, 0, none⟩) n n)) (hj : j < n) (hx : I j = x) (hmin : ∀ l, l < j → I l ≠ x) :
    Calls Try.prog 11 #[.pointer (some ⟨cb, 0, none⟩), .int .i64 x] w fun e w' =>
      e = .returned (.tuple #[.agg #[.int .i64 (I j), .string (A j), .string (S j), .string (E j)], .bool true]) ∧ Below w.heap.size w w' := by
  have HX : Hid (I j = x) := hx
  have HM : Hid (∀ l, l < j → I l ≠ x) := hmin
  have HS : Hid (ShsIn w b n I A S E) := hs
  clear hx hmin hs
  go_enter Try.func11, Try.ntmps11
  go_wp2
  go_loopw [13] (fun i wr => ∃ k : Nat, k ≤ j ∧ i = .int .i64 k ∧ Below (w.heap.size + 1) (w.alloc zero35) wr) (fun i _ => n - (intOf i).toNat)
  case atStart => exact ⟨0, Nat.zero_le _, rfl, Below.refl _ _⟩
  case round =>
    obtain ⟨k, hk, rfl, hb⟩ := hrel
    have hw1 : Below w.heap.size w (w.alloc zero35) := (Below.refl _ _).alloc (Nat.le_refl _) _
    have hww : Below w.heap.size w wr := hw1.trans (hb.mono (by omega))
    have hs := HS.out.below hww HS.out.1
    obtain ⟨y0, y1, y2, y3⟩ := hs.2 k (by omega)
    obtain ⟨r0, r1, r2, r3, hf⟩ := zero_cells hb
    have hz : w.heap.size < wr.heap.size := by have := hb.size; simp at this; omega
    have hbs : b < wr.heap.size := hs.1
    have hne : b ≠ wr.heap.size := by omega
    have HB : Hid _ := hb
    have HW : Hid _ := hww
    clear hs hb hww hw1 hc hcb
    have i1 : (k : Int) < (n : Int) := by omega
    by_cases hkj : k = j
    · subst hkj
      have hx := HX.out
      have ht : (I k == x) = true := by simp [hx]
      clear hx
      go_wp2
      refine bodyPost_ret (v := .tuple #[.agg #[.int .i64 (I k), .string (A k), .string (S k), .string (E k)], .bool true]) (by simp [results, Try.results11, go_sem, hz, r0, r1, r2, r3]) rfl ⟨rfl, ?_⟩
      exact ((((HW.out.setCell (Nat.le_refl _) _).setCell (Nat.le_refl _) _).setCell (Nat.le_refl _) _).setCell (Nat.le_refl _) _).alloc (by simp; omega) _
    · have hx := HM.out k (by omega)
      have ht : (I k == x) = false := by simp [hx]
      clear hx
      go_wp2
      go_roundw
      case rel => exact ⟨k + 1, by omega, by go_num, HB.out.alloc (by omega) _⟩
      case measure => simp [intOf]; omega
end Go.Proofs.Qxb6001492a
