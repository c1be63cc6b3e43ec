import Derived.Test.Qxb6001685aInv
import Derived.BigRegion
import Derived.BigQuiet
import Derived.Deep.QuietTactic
namespace Go.Proofs.Qxb6001685a
open Go.RowKit

/-- Where next, where acceptSymbol leaves the parser. -/
def np (k : Int) (pos : Nat) : Nat := if k = 0 then pos else pos + 1
def ap (b : Bool) (pos : Nat) : Nat := if b = true then pos + 1 else pos

theorem pos_any (w4 : World) (Z P n : Nat) (K : Nat → Int) (X : Nat → ByteArray) (pos : Nat) (w : World) (h : Inv w4 Z P n K X pos w) :
    Calls Try.prog 21 #[.pointer (some ⟨P, 0, none⟩)] w fun e w' => e = .returned (.int .i64 (pos : Int)) ∧ w = w' := by
  have h2 := h.at'
  clear h
  go_enter Try.func21, Try.ntmps21
  go_wp2
  go_ret
  exact ⟨rfl, rfl⟩

set_option maxHeartbeats 1000000 in
theorem next_any (w4 : World) (Z P n : Nat) (K : Nat → Int) (X : Nat → ByteArray) (pos : Nat) (w : World) (h : Inv w4 Z P n K X pos w) (hpos : pos < n) (hn : n ≤ 65536) :
    Calls Try.prog 28 #[.pointer (some ⟨P, 0, none⟩)] w fun e w' => e = .returned (.agg #[.int .u8 (K pos), .string (X pos), .int .i64 (pos : Int)]) ∧ Inv w4 Z P n K X (np (K pos) pos) w' := by
  have l0 := h.lt
  have lz := h.toks.1
  have zp := h.hZP
  have k1 := h.tk
  have k2 := h.at'
  have kf := h.free
  obtain ⟨t0, t1, t2⟩ := h.toks.2 pos hpos
  have i0 : (0 : Int) ≤ (pos : Int) := by omega
  have i1 : (pos : Int) < (n : Int) := by omega
  have H : Hid _ := h
  clear h
  by_cases hk : K pos = 0
  · have hkb : (K pos != 0) = false := by simp [hk]
    rw [np, if_pos hk]
    clear hk
    go_enter Try.func28, Try.ntmps28
    go_wp2
    go_region
    go_wp2
    refine bodyPost_ret (v := .agg #[.int .u8 (K pos), .string (X pos), .int .i64 (pos : Int)]) (by simp [results, Try.results28, go_sem]) rfl ⟨rfl, ?_⟩
    exact ((H.out.laid _).laid _).drew
  · have hkb : (K pos != 0) = true := by simp [hk]
    rw [np, if_neg hk]
    clear hk
    go_enter Try.func28, Try.ntmps28
    go_wp2
    go_region
    go_wp2
    refine bodyPost_ret (v := .agg #[.int .u8 (K pos), .string (X pos), .int .i64 (pos : Int)]) (by simp [results, Try.results28, go_sem]) rfl ⟨rfl, ?_⟩
    have hm := H.out.move (pos + 1)
    rw [Int.natCast_add] at hm
    exact ((hm.laid _).laid _).drew

theorem peek_any (w4 : World) (Z P n : Nat) (K : Nat → Int) (X : Nat → ByteArray) (pos : Nat) (w : World) (h : Inv w4 Z P n K X pos w) (hpos : pos < n) :
    Calls Try.prog 34 #[.pointer (some ⟨P, 0, none⟩)] w fun e w' => e = .returned (.agg #[.int .u8 (K pos), .string (X pos), .int .i64 (pos : Int)]) ∧ Inv w4 Z P n K X pos w' := by
  have l0 := h.lt
  have lz := h.toks.1
  have zp := h.hZP
  have k1 := h.tk
  have k2 := h.at'
  obtain ⟨t0, t1, t2⟩ := h.toks.2 pos hpos
  have i0 : (0 : Int) ≤ (pos : Int) := by omega
  have i1 : (pos : Int) < (n : Int) := by omega
  have H : Hid _ := h
  clear h
  go_enter Try.func34, Try.ntmps34
  go_wp2
  go_region
  go_wp2
  refine bodyPost_ret (v := .agg #[.int .u8 (K pos), .string (X pos), .int .i64 (pos : Int)]) (by simp [results, Try.results34, go_sem]) rfl ⟨rfl, ?_⟩
  exact (H.out.laid _).drew

/-- Is the token the symbol s? -/
def isB (k : Int) (x s : ByteArray) : Bool := (k == 6) && (x.toList == s.toList)

theorem isSym_any (k p : Int) (x s : ByteArray) (w : World) :
    Calls Try.prog 33 #[.agg #[.int .u8 k, .string x, .int .i64 p], .string s] w fun e w' => e = .returned (.bool (isB k x s)) ∧ Below w.heap.size w w' := by
  cases hk : (k == 6) with
  | true =>
    have e : Hid (isB k x s = (x.toList == s.toList)) := by simp [Hid, isB, hk]
    go_enter Try.func33, Try.ntmps33
    go_wp2
    go_ret
    exact ⟨by rw [e.out]; rfl, (Below.refl _ _).alloc (Nat.le_refl _) _⟩
  | false =>
    have e : Hid (isB k x s = false) := by simp [Hid, isB, hk]
    go_enter Try.func33, Try.ntmps33
    go_wp2
    go_ret
    exact ⟨by rw [e.out]; rfl, (Below.refl _ _).alloc (Nat.le_refl _) _⟩

set_option maxHeartbeats 1000000 in
theorem zznext_any (w4 : World) (Z P n : Nat) (K : Nat → Int) (X : Nat → ByteArray) (pos : Nat) (w : World) (h : Inv w4 Z P n K X pos w) (hpos : pos < n) (hn : n ≤ 65536) :
    Calls Try.prog 22 #[.pointer (some ⟨P, 0, none⟩)] w fun e w' => e = .returned (.tuple #[.int .u8 (K pos), .string (X pos)]) ∧ Inv w4 Z P n K X (np (K pos) pos) w' := by
  go_enter Try.func22, Try.ntmps22
  go_wp2_with fail
  refine (next_any w4 Z P n K X pos w h hpos hn).mono ?_
  rintro e w1 ⟨rfl, h1⟩
  have H : Hid _ := h1
  clear h h1
  go_wp2_with fail
  go_quiet (fail)
  go_wp2_with fail
  go_ret2
  exact ⟨rfl, (H.out.laid _).drawn _⟩

set_option maxHeartbeats 1000000 in
theorem accept_any (w4 : World) (Z P n : Nat) (K : Nat → Int) (X : Nat → ByteArray) (pos : Nat) (s : ByteArray) (w : World) (h : Inv w4 Z P n K X pos w) (hpos : pos < n) (hn : n ≤ 65536) :
    Calls Try.prog 29 #[.pointer (some ⟨P, 0, none⟩), .string s] w fun e w' => e = .returned (.bool (isB (K pos) (X pos) s)) ∧ Inv w4 Z P n K X (ap (isB (K pos) (X pos) s) pos) w' := by
  go_enter Try.func29, Try.ntmps29
  go_wp2_with fail
  refine (peek_any w4 Z P n K X pos w h hpos).mono ?_
  rintro e w1 ⟨rfl, h1⟩
  clear h
  go_wp2_with fail
  refine (isSym_any _ _ _ _ w1).mono ?_
  rintro e w2 ⟨rfl, hb⟩
  have h2 := h1.grow hb
  clear h1 hb
  have l0 := h2.lt
  have k2 := h2.at'
  have kf := h2.free
  have H : Hid _ := h2
  clear h2
  obtain ⟨β, hβ⟩ : ∃ β, isB (K pos) (X pos) s = β := ⟨_, rfl⟩
  rw [hβ]
  have HT : Hid _ := hβ
  clear hβ
  cases β with
  | true =>
    go_wp2_with fail
    go_ret
    have hm := H.out.move (pos + 1)
    rw [Int.natCast_add] at hm
    exact ⟨by rw [HT.out]; rfl, by rw [HT.out]; exact hm⟩
  | false =>
    go_wp2_with fail
    go_ret
    exact ⟨by rw [HT.out]; rfl, by rw [HT.out]; exact H.out⟩

theorem zzaccept_any (w4 : World) (Z P n : Nat) (K : Nat → Int) (X : Nat → ByteArray) (pos : Nat) (s : ByteArray) (w : World) (h : Inv w4 Z P n K X pos w) (hpos : pos < n) (hn : n ≤ 65536) :
    Calls Try.prog 23 #[.pointer (some ⟨P, 0, none⟩), .string s] w fun e w' => e = .returned (.bool (isB (K pos) (X pos) s)) ∧ Inv w4 Z P n K X (ap (isB (K pos) (X pos) s) pos) w' := by
  go_enter Try.func23, Try.ntmps23
  go_wp2_with fail
  refine (accept_any w4 Z P n K X pos s w h hpos hn).mono ?_
  rintro e w1 ⟨rfl, h1⟩
  clear h
  have H : Hid _ := h1
  clear h1
  go_wp2_with fail
  go_ret
  exact ⟨rfl, H.out⟩
end Go.Proofs.Qxb6001685a
