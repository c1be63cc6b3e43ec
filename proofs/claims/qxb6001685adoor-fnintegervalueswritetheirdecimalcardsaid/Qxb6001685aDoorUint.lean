import Derived.Test.Qxb6001685aDoorDec
import Derived.Test.Qxb6001685aDoorShelf
import Derived.Lib.ItoaMem
namespace Go.Proofs.Qxb6001685aDoor
open Go.RowKit Go.Sort

theorem below_grow (w : World) (k : Nat) (os : Array Obj) : Below w.heap.size w (grow (w.drewN k) os) := by
  refine ⟨rfl, rfl, rfl, ?_, fun i hi => ?_⟩
  · show w.heap.size ≤ (w.heap ++ os).size
    simp
  · show (w.heap ++ os)[i]? = w.heap[i]?
    rw [Array.getElem?_append_left hi]

theorem tab_below {w w' : World} {name : String} {k : IntKind} {zs : List Int} (h : Lib.TabIs Tryd.prog w name k zs) (hb : Below w.heap.size w w') : Lib.TabIs Tryd.prog w' name k zs := by
  unfold Lib.TabIs World.var? at *
  cases hg : Tryd.prog.globalNamed name with
  | none => simp [hg] at h
  | some g =>
    simp only [hg, Option.bind_some] at h ⊢
    have hlt : g < w.heap.size := by
      rcases Nat.lt_or_ge g w.heap.size with h' | h'
      · exact h'
      · rw [Array.getElem?_eq_none h'] at h; simp at h
    rw [hb.block g hlt]
    exact h

theorem holds_zero0 (w : World) (nd : Nat) (hs : nd ≤ 24) : Holds (fun (b : UInt8) => Value.int .u8 (b.toNat : Int)) (w.alloc (.cells Lib.zeros24 39)) w.heap.size 0 (Array.replicate nd (0 : UInt8)) := fun j hj => by
  have hj' : j < nd := by simpa using hj
  refine ⟨?_, World.frozen?_alloc_new _ _ _ _⟩
  rw [World.cell?_alloc_new, Lib.zeros24_at _ (by omega), getElem!_pos _ j hj]
  simp

theorem fin0 (w : World) (o : Obj) (dk : Array UInt8) (k : Nat) : Below w.heap.size w ((putRow (fun (b : UInt8) => Value.int .u8 (b.toNat : Int)) (w.alloc o) w.heap.size 0 dk).drewN k) := by
  rw [alloc_eq_grow]
  obtain ⟨os', _, e⟩ := putRow_grow_new (fun (b : UInt8) => Value.int .u8 (b.toNat : Int)) w #[o] w.heap.size 0 dk (Nat.le_refl _)
  rw [e]
  exact below_grow w k os'

theorem sl39 (b n : Nat) (hn : n ≤ 24) (w : World) :
    (Instr.sliceAt 39 (.pointer (some ⟨b, 0, none⟩)) none (some (.int .i64 (n : Int))) none).run Tryd.prog w = .ok (.slice (some ⟨b, 0, none⟩) n 24) w := by
  have hl : Tryd.prog.arrayLen 39 = 24 := by kernel_rfl
  have he : Tryd.prog.elem 39 = 5 := by kernel_rfl
  have hz : (Go.sizeOf 5).run Tryd.prog w = .ok 1 w := by kernel_rfl
  rw [run_sliceAt_array_h w 39 _ (by kernel_rfl) .i64 (n : Int) (by omega) (by rw [hl]; omega)]
  rw [he, hz, hl]
  simp [slicedAt, Addr.add]

set_option maxHeartbeats 2000000 in
set_option maxRecDepth 100000 in
theorem formatUint_inner (u : Nat) (h1 : 100 ≤ u) (hu64 : u < 18446744073709551616) (w : World) (htab : Lib.TabIs Tryd.prog w Qxb6001685aDoor.powName .u64 Lib.pow10Tab) :
    Calls Tryd.prog 14 #[.int .u64 u, .int .i64 10] w fun e w' => e = .returned (.string ⟨(Lib.decDigits u).toArray⟩) ∧ Below w.heap.size w w' := by
  have hu1 : 1 ≤ u := by omega
  have hnd20 : Lib.nDigits u ≤ 20 := by have := Lib.numDigits_eq u hu1 hu64; split at this <;> omega
  have hsl := fun W => sl39 w.heap.size (Lib.nDigits u) (by omega) W
  have hH0 := holds_zero0 w (Lib.nDigits u) (by omega)
  have hfmt := Tryd.internal_strconv_formatBase10 w.heap.size 0 24 u (Array.replicate (Lib.nDigits u) 0) (w.alloc (.cells Lib.zeros24 39)) hH0 (by rw [Array.size_replicate]; exact Lib.lt_pow_nDigits u) hu64 (by rw [Array.size_replicate]; omega)
  rw [Array.size_replicate] at hfmt
  have HH0 := Lib.hid hH0
  have HT := Lib.hid htab
  clear hH0 htab
  have hlt : ¬ (u : Int) < 100 := by omega
  go_enter Tryd.func14, Tryd.ntmps14
  go_wp2_with fail
  refine (Tryd.internal_strconv_numDigits u hu1 hu64 _ (Lib.tabIs_alloc HT.out _)).mono ?_
  rintro e w' ⟨rfl, rfl⟩
  go_wp2_with fail
  refine hfmt.mono ?_
  rintro e w' ⟨rfl, k, v', dk, rfl, hF⟩
  have hcv : (convert 37 9 (.slice (some ⟨w.heap.size, 0, none⟩) (Lib.nDigits u) 24)).run Tryd.prog ((putRow (fun (b : UInt8) => Value.int .u8 (b.toNat : Int)) (w.alloc (.cells Lib.zeros24 39)) w.heap.size 0 dk).drewN k) = .ok (.string ⟨(Lib.decDigits u).toArray⟩) ((putRow (fun (b : UInt8) => Value.int .u8 (b.toNat : Int)) (w.alloc (.cells Lib.zeros24 39)) w.heap.size 0 dk).drewN k) := by
    have h := run_convert_bytes_back (P := Tryd.prog) ((putRow (fun (b : UInt8) => Value.int .u8 (b.toNat : Int)) (w.alloc (.cells Lib.zeros24 39)) w.heap.size 0 dk).drewN k) 37 9 5 ⟨w.heap.size, 0, none⟩ 24 (Lib.decDigits u) Tryd.underlying37 Tryd.underlying5 Tryd.underlying9 (fun j hj => by
      rw [Lib.row_is_numeral hF j hj, Lib.add_plain, World.cell?_drewN]
      exact cell?_putRow (fun (b : UInt8) => Value.int .u8 (b.toNat : Int)) _ w.heap.size 0 _ dk HH0.out (by rw [hF.size, Array.size_replicate]) j (by rw [hF.size]; rw [Lib.decDigits_length] at hj; exact hj))
    rw [Lib.decDigits_length] at h
    exact h
  go_wp2
  go_ret
  exact ⟨rfl, fin0 w _ dk k⟩

theorem formatUint_any (u : Nat) (h1 : 100 ≤ u) (hu64 : u < 18446744073709551616) (w : World) (htab : Lib.TabIs Tryd.prog w Qxb6001685aDoor.powName .u64 Lib.pow10Tab) :
    Calls Tryd.prog 12 #[.int .u64 u, .int .i64 10] w fun e w' => e = .returned (.string ⟨(Lib.decDigits u).toArray⟩) ∧ Below w.heap.size w w' := by
  go_enter Tryd.func12, Tryd.ntmps12
  go_wp2_with fail
  refine (formatUint_inner u h1 hu64 w htab).mono ?_
  rintro e w' ⟨rfl, hb⟩
  go_wp2_with fail
  go_ret
  exact ⟨rfl, hb⟩

theorem formatInt_any (n : Int) (h0 : -9223372036854775808 ≤ n) (h1 : n ≤ 9223372036854775807) (w : World) (htab : Lib.TabIs Tryd.prog w Qxb6001685aDoor.powName .u64 Lib.pow10Tab) :
    Calls Tryd.prog 11 #[.int .i64 n, .int .i64 10] w fun e w' => e = .returned (.string ⟨(Lib.itoa n).toArray⟩) ∧ Below w.heap.size w w' := by
  refine (Tryd.strconv_FormatInt_10 n h0 h1 w htab).mono ?_
  rintro e w' ⟨rfl, k, os, rfl⟩
  exact ⟨rfl, below_grow w k os⟩
end Go.Proofs.Qxb6001685aDoor
