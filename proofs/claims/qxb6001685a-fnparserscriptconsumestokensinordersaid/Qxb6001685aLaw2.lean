/-
  The proof of 'Rows.FnParserScriptConsumesTokensInOrderSaid', after the kit's shell for slices.
-/
import Derived.Test.Qxb6001685aWalk
import Derived.Test.Qxb6001685aNone
import Derived.OpenShut
import Derived.ShutString
import Derived.ChangeOld
import Derived.Below
import Derived.SliceStrings
namespace Go.Proofs.Qxb6001685a
open Go.ChangeShapes Go.WideShapes Go.ChangeAt Go.RowKit
set_option linter.unusedVariables false

theorem own : ownKnob Try.prog.godebug = none := by kernel_rfl
theorem laidOut : laidOutB Try.prog = true := by kernel_rfl

/-- From a row read through an address to 'Row'. -/
theorem row_of_cells {w : World} {x : Addr} {n : Nat} {V : Nat → Value} (h : ∀ i, i < n → w.cell? (x.add i) = some (V i)) : Row w (some x) n V := by
  rcases Nat.eq_zero_or_pos n with e | e
  · exact Or.inl e
  · obtain ⟨b, off, spot⟩ := x
    have hc := h 0 e
    have hspot : spot = none := by simpa [Addr.add] using World.cell?_spot hc
    subst hspot
    refine Or.inr ⟨b, off, rfl, ?_, fun i hi => ?_⟩
    · have h0 : w.cell? ⟨b, off, none⟩ = some (V 0) := by simpa [Addr.add] using hc
      unfold World.cell? at h0
      split at h0
      · rename_i c e f hb
        exact (Array.getElem?_eq_some_iff.1 hb).1
      · simp at h0
    · have := h i hi
      by_cases e0 : i = 0
      · subst e0
        simpa [Addr.add] using this
      · simpa [Addr.add, e0] using this

/-- The walk, whatever the number of tokens. -/
theorem walk (a0 a1 a3 a4 : Option Addr) (st : Int) (n0 n1 n3 n4 c0 c1 c3 c4 : Nat) (K C : Nat → Int) (X Y : Nat → ByteArray) (w : World)
    (m0 : n0 ≤ 9223372036854775807) (m1 : n1 ≤ 9223372036854775807) (m3 : n3 ≤ 9223372036854775807) (m4 : n4 ≤ 9223372036854775807)
    (r0 : Row w a0 n0 (bytes K)) (r1 : Row w a1 n1 (strs X)) (r3 : Row w a3 n3 (bytes C)) (r4 : Row w a4 n4 (strs Y)) (hC : ∀ i, i < n3 → 0 ≤ C i ∧ C i ≤ 255) :
    Calls Try.prog 6 #[.slice a0 n0 c0, .slice a1 n1 c1, .int .i64 st, .slice a3 n3 c3, .slice a4 n4 c4] w fun e w' => e = .returned (.bool true) ∧ Below w.heap.size w w' := by
  rcases Nat.eq_zero_or_pos n0 with e | e
  · subst e
    exact walk_none a0 a1 a3 a4 st n1 n3 n4 c0 c1 c3 c4 X Y w m1 m3 m4 r1 r4
  · obtain ⟨b, off, rfl, hlt, hc⟩ := r0.some e
    exact walk_some b off a1 a3 a4 st n0 n1 n3 n4 c0 c1 c3 c4 K C X Y w e m0 m1 m3 m4 r0 (hc (n0 - 1) (by omega)) r1 r3 r4 hC

set_option maxRecDepth 100000 in
theorem lifted (os : Os) (started : os.Started) (H : Type) (enc : TypeId × Value → H) :
    ReturnsInHanded {} Try.checked os 6 .any (Rows.fnParserScriptConsumesTokensInOrderSpec.pre6 enc Try.prog Try.f6 Rows.fnParserScriptConsumesTokensInOrderRow.domain false) (Rows.fnParserScriptConsumesTokensInOrderSpec.post enc Try.prog Try.f6 false true false false) := by
  refine returnsInHanded_of_change (C := Try.checked) own started (by kernel_rfl) Try.func6
    (ChangeSpec.witness6 (enc := enc) (C := Try.checked) false ⟨#[], #[.slice none 0 0, .slice none 0 0, .int .i64 0, .slice none 0 0, .slice none 0 0], []⟩ 8 (by kernel_rfl) (by kernel_rfl) (by kernel_rfl) (by kernel_rfl)) ?_
  intro W base args ds gs before hval0 hW hcnd _
  have hval : ∀ (j : Nat) t v, Try.f6.params[j]? = some t → args[j]? = some v → Value.okWide Try.prog W .any base t v := hval0
  have hW' := hW
  obtain ⟨p, q, hA0, hV, rfl, hfz, hnd⟩ := hW
  have hA : DataW.TrodAll enc Try.prog W 0 (fun _ => true) true Try.f6.params.toList args.toList ds p := hA0
  rw [Try.params6] at hA hval
  obtain ⟨v0, vs0, d0, ds0, p0, q0, hargs, rfl, rfl, h0, r0⟩ := trodAll_cons hA
  obtain ⟨v1, vs1, d1, ds1, p1, q1, rfl, rfl, rfl, h1, r1⟩ := trodAll_cons r0
  obtain ⟨v2, vs2, d2, ds2, p2, q2, rfl, rfl, rfl, h2, r2⟩ := trodAll_cons r1
  obtain ⟨v3, vs3, d3, ds3, p3, q3, rfl, rfl, rfl, h3, r3⟩ := trodAll_cons r2
  obtain ⟨v4, vs4, d4, ds4, p4, q4, rfl, rfl, rfl, h4, r4⟩ := trodAll_cons r3
  obtain ⟨rfl, rfl, rfl⟩ := trodAll_nil r4
  obtain rfl : args = #[v0, v1, v2, v3, v4] := by cases args; simp_all
  obtain ⟨rfl, rfl⟩ := trodVars_none hV
  obtain ⟨a0, n0, c0, rfl⟩ := okWide_slice Try.underlying29 (hval 0 29 v0 rfl rfl)
  obtain ⟨a1, n1, c1, rfl⟩ := okWide_slice Try.underlying30 (hval 1 30 v1 rfl rfl)
  obtain ⟨st, rfl, rfl, rfl, w2⟩ := open_int Try.underlying3 (hval 2 3 v2 rfl rfl) h2
  obtain ⟨a3, n3, c3, rfl⟩ := okWide_slice Try.underlying29 (hval 3 29 v3 rfl rfl)
  obtain ⟨a4, n4, c4, rfl⟩ := okWide_slice Try.underlying30 (hval 4 30 v4 rfl rfl)
  have lt0 : ∀ x ∈ p0, x.block < W.heap.size := by obtain ⟨m, hm⟩ := h0; exact DataW.trod_lt m _ _ _ hm
  have lt1 : ∀ x ∈ p1, x.block < W.heap.size := by obtain ⟨m, hm⟩ := h1; exact DataW.trod_lt m _ _ _ hm
  have lt3 : ∀ x ∈ p3, x.block < W.heap.size := by obtain ⟨m, hm⟩ := h3; exact DataW.trod_lt m _ _ _ hm
  have lt4 : ∀ x ∈ p4, x.block < W.heap.size := by obtain ⟨m, hm⟩ := h4; exact DataW.trod_lt m _ _ _ hm
  have byteRow : ∀ (a : Option Addr) (n c : Nat) (d : DataW H) (ps : List MemPlace), DataW.Trod enc Try.prog W 0 (fun _ => true) true 29 (.slice a n c) d ps → ∃ I : Nat → Int, n ≤ 9223372036854775807 ∧ Row W a n (bytes I) ∧ ∀ i, i < n → 0 ≤ I i ∧ I i ≤ 255 := by
    intro a n c d ps hh
    obtain ⟨fuel, hf⟩ := hh
    rcases open_ints Try.underlying29 Try.underlying5 (by kernel_rfl) hf with ⟨hcs, _⟩ | ⟨x, l, c, zs, hcs, _, hl, hm, hz, _, hcell, hwz⟩
    · simp [Value.cells] at hcs
      obtain ⟨rfl, rfl, rfl⟩ := hcs
      exact ⟨fun _ => 0, by omega, Or.inl rfl, fun i hi => by omega⟩
    · simp [Value.cells] at hcs
      obtain ⟨rfl, rfl, rfl⟩ := hcs
      unfold maxLen at hm
      simp at hz
      refine ⟨fun i => zs.getD i 0, by omega, row_of_cells fun i hi => hcell i (by omega), fun i hi => ?_⟩
      have hi' : i < zs.length := by omega
      have hw := hwz (zs.getD i 0) (by simp [List.getD, hi'])
      simp only [Lit.wf, Bool.and_eq_true, decide_eq_true_eq] at hw
      exact hw
  have strRow : ∀ (a : Option Addr) (n c : Nat) (d : DataW H) (ps : List MemPlace), DataW.Trod enc Try.prog W 0 (fun _ => true) true 30 (.slice a n c) d ps → ∃ S : Nat → ByteArray, n ≤ 9223372036854775807 ∧ Row W a n (strs S) := by
    intro a n c d ps hh
    obtain ⟨fuel, hf⟩ := hh
    rcases open_strings Try.underlying30 Try.underlying9 (by kernel_rfl) hf with ⟨hcs, _⟩ | ⟨x, l, c, ss, hcs, _, hl, hm, hz, _, hcell, hwz⟩
    · simp [Value.cells] at hcs
      obtain ⟨rfl, rfl, rfl⟩ := hcs
      exact ⟨fun _ => ByteArray.empty, by omega, Or.inl rfl⟩
    · simp [Value.cells] at hcs
      obtain ⟨rfl, rfl, rfl⟩ := hcs
      unfold maxLen at hm
      refine ⟨fun i => ss.getD i ByteArray.empty, by omega, row_of_cells fun i hi => hcell i ?_⟩
      simp at hz
      omega
  obtain ⟨K, m0, y0, _⟩ := byteRow a0 n0 c0 d0 p0 h0
  obtain ⟨X, m1, y1⟩ := strRow a1 n1 c1 d1 p1 h1
  obtain ⟨C, m3, y3, z3⟩ := byteRow a3 n3 c3 d3 p3 h3
  obtain ⟨Y, m4, y4⟩ := strRow a4 n4 c4 d4 p4 h4
  clear hA0 hval0 strRow byteRow
  refine (walk a0 a1 a3 a4 st n0 n1 n3 n4 c0 c1 c3 c4 K C X Y W m0 m1 m3 m4 y0 y1 y3 y4 z3).mono fun e W' ⟨he, bel⟩ => ?_
  subst he
  exact ⟨_, rfl, _, _, _, [], _, [], hW', trodAll_mk1 (shut_bool Try.underlying4 _), (trodAll_cons_mk (Below.trod laidOut (by kernel_rfl) (of_decide_eq_true (by kernel_rfl)) h0 bel lt0) (trodAll_cons_mk (Below.trod laidOut (by kernel_rfl) (of_decide_eq_true (by kernel_rfl)) h1 bel lt1) (trodAll_cons_mk (shut_int Try.underlying3 w2) (trodAll_cons_mk (Below.trod laidOut (by kernel_rfl) (of_decide_eq_true (by kernel_rfl)) h3 bel lt3) (trodAll_cons_mk (Below.trod laidOut (by kernel_rfl) (of_decide_eq_true (by kernel_rfl)) h4 bel lt4) trodAll_mk0))))), rfl, bel.frame _, fun h => by cases h⟩

theorem over : Rows.fnParserScriptConsumesTokensInOrderRow.holds Try.pinned (OpenSpec.ofChange Rows.fnParserScriptConsumesTokensInOrderSpec) :=
  OpenClaim.holds_of_wide 6 Try.f6 rfl rfl rfl rfl rfl rfl rfl ⟨rfl, rfl, rfl, rfl, rfl⟩ rfl rfl rfl rfl rfl (by kernel_rfl) Try.func6 (by kernel_rfl)
    (of_decide_eq_true (by kernel_rfl)) (by unfold Func.isWrapper; first | (rw [if_pos (by decide +kernel)]; kernel_rfl) | (rw [if_neg (by decide +kernel)]; exact ⟨rfl, rfl⟩))
    (fun os started H enc _ => lifted os started H enc)

/-- THE STATEMENT -/
theorem proved : Rows.FnParserScriptConsumesTokensInOrderSaid := over
#print axioms proved
end Go.Proofs.Qxb6001685a
