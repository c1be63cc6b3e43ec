/-
  The proof of 'Rows.FnShardFindsFirstOwnerOfEveryListedIDSaid', after the kit's shell for slices.
-/
import Derived.Test.Qxb6001492aWalk
import Derived.OpenShut
import Derived.ShutString
import Derived.ChangeOld
import Derived.Below
import Derived.SliceStrings
namespace Go.Proofs.Qxb6001492a
open Go.ChangeShapes Go.WideShapes Go.ChangeAt Go.RowKit
set_option linter.unusedVariables false

theorem own : ownKnob Try.prog.godebug = none := by kernel_rfl
theorem laidOut : laidOutB Try.prog = true := by kernel_rfl

/-- From a row read through an address to 'Row'. -/
theorem row_of_cells {w : World} {x : Addr} {n : Nat} {V : Nat → Value} (h : ∀ i, i < n → w.cell? (x.add i) = some (V i)) : Row w (some x) n V := by
  rcases Nat.eq_zero_or_pos n with e | e
  · exact Or.inl e
  · obtain ⟨b, off, spot⟩ := x
    have hc := h 0 e
    have hspot : spot = none := by simpa [Addr.add] using World.cell?_spot hc
    subst hspot
    refine Or.inr ⟨b, off, rfl, ?_, fun i hi => ?_⟩
    · have h0 : w.cell? ⟨b, off, none⟩ = some (V 0) := by simpa [Addr.add] using hc
      unfold World.cell? at h0
      split at h0
      · rename_i c e f hb
        exact (Array.getElem?_eq_some_iff.1 hb).1
      · simp at h0
    · have := h i hi
      by_cases e0 : i = 0
      · subst e0
        simpa [Addr.add] using this
      · simpa [Addr.add, e0] using this

set_option maxRecDepth 100000 in
theorem lifted (os : Os) (started : os.Started) (H : Type) (enc : TypeId × Value → H) :
    ReturnsInHanded {} Try.checked os 3 .any (Rows.fnShardFindsFirstOwnerOfEveryListedIDSpec.pre6 enc Try.prog Try.f3 Rows.fnShardFindsFirstOwnerOfEveryListedIDRow.domain false) (Rows.fnShardFindsFirstOwnerOfEveryListedIDSpec.post enc Try.prog Try.f3 false true false false) := by
  refine returnsInHanded_of_change (C := Try.checked) own started (by kernel_rfl) Try.func3
    (ChangeSpec.witness6 (enc := enc) (C := Try.checked) false ⟨#[], #[.slice none 0 0, .slice none 0 0, .slice none 0 0, .slice none 0 0], []⟩ 8 (by kernel_rfl) (by kernel_rfl) (by kernel_rfl) (by kernel_rfl)) ?_
  intro W base args ds gs before hval0 hW hcnd _
  have hval : ∀ (j : Nat) t v, Try.f3.params[j]? = some t → args[j]? = some v → Value.okWide Try.prog W .any base t v := hval0
  have hW' := hW
  obtain ⟨p, q, hA0, hV, rfl, hfz, hnd⟩ := hW
  have hA : DataW.TrodAll enc Try.prog W 0 (fun _ => true) true Try.f3.params.toList args.toList ds p := hA0
  rw [Try.params3] at hA hval
  obtain ⟨v0, vs0, d0, ds0, p0, q0, hargs, rfl, rfl, h0, r0⟩ := trodAll_cons hA
  obtain ⟨v1, vs1, d1, ds1, p1, q1, rfl, rfl, rfl, h1, r1⟩ := trodAll_cons r0
  obtain ⟨v2, vs2, d2, ds2, p2, q2, rfl, rfl, rfl, h2, r2⟩ := trodAll_cons r1
  obtain ⟨v3, vs3, d3, ds3, p3, q3, rfl, rfl, rfl, h3, r3⟩ := trodAll_cons r2
  obtain ⟨rfl, rfl, rfl⟩ := trodAll_nil r3
  obtain rfl : args = #[v0, v1, v2, v3] := by cases args; simp_all
  obtain ⟨rfl, rfl⟩ := trodVars_none hV
  obtain ⟨a0, n0, c0, rfl⟩ := okWide_slice Try.underlying22 (hval 0 22 v0 rfl rfl)
  obtain ⟨a1, n1, c1, rfl⟩ := okWide_slice Try.underlying23 (hval 1 23 v1 rfl rfl)
  obtain ⟨a2, n2, c2, rfl⟩ := okWide_slice Try.underlying23 (hval 2 23 v2 rfl rfl)
  obtain ⟨a3, n3, c3, rfl⟩ := okWide_slice Try.underlying23 (hval 3 23 v3 rfl rfl)
  have lt0 : ∀ x ∈ p0, x.block < W.heap.size := by obtain ⟨m, hm⟩ := h0; exact DataW.trod_lt m _ _ _ hm
  have lt1 : ∀ x ∈ p1, x.block < W.heap.size := by obtain ⟨m, hm⟩ := h1; exact DataW.trod_lt m _ _ _ hm
  have lt2 : ∀ x ∈ p2, x.block < W.heap.size := by obtain ⟨m, hm⟩ := h2; exact DataW.trod_lt m _ _ _ hm
  have lt3 : ∀ x ∈ p3, x.block < W.heap.size := by obtain ⟨m, hm⟩ := h3; exact DataW.trod_lt m _ _ _ hm
  obtain ⟨I, m0, w0⟩ : ∃ I : Nat → Int, n0 ≤ 9223372036854775807 ∧ Row W a0 n0 (ints I) := by
    obtain ⟨fuel, hf⟩ := h0
    rcases open_ints Try.underlying22 Try.underlying3 (by kernel_rfl) hf with ⟨hcs, _⟩ | ⟨x, l, c, zs, hcs, _, hl, hm, hz, _, hcell, hwz⟩
    · simp [Value.cells] at hcs
      obtain ⟨rfl, rfl, rfl⟩ := hcs
      exact ⟨fun _ => 0, by omega, Or.inl rfl⟩
    · simp [Value.cells] at hcs
      obtain ⟨rfl, rfl, rfl⟩ := hcs
      unfold maxLen at hm
      refine ⟨fun i => zs.getD i 0, by omega, row_of_cells fun i hi => hcell i ?_⟩
      simp at hz
      omega
  have strRow : ∀ (j : Nat) (a : Option Addr) (n c : Nat) (d : DataW H) (ps : List MemPlace), DataW.Trod enc Try.prog W 0 (fun _ => true) true 23 (.slice a n c) d ps → ∃ S : Nat → ByteArray, n ≤ 9223372036854775807 ∧ Row W a n (strs S) := by
    intro j a n c d ps hh
    obtain ⟨fuel, hf⟩ := hh
    rcases open_strings Try.underlying23 Try.underlying9 (by kernel_rfl) hf with ⟨hcs, _⟩ | ⟨x, l, c, ss, hcs, _, hl, hm, hz, _, hcell, hwz⟩
    · simp [Value.cells] at hcs
      obtain ⟨rfl, rfl, rfl⟩ := hcs
      exact ⟨fun _ => ByteArray.empty, by omega, Or.inl rfl⟩
    · simp [Value.cells] at hcs
      obtain ⟨rfl, rfl, rfl⟩ := hcs
      unfold maxLen at hm
      refine ⟨fun i => ss.getD i ByteArray.empty, by omega, row_of_cells fun i hi => hcell i ?_⟩
      simp at hz
      omega
  obtain ⟨A, m1, w1⟩ := strRow 1 a1 n1 c1 d1 p1 h1
  obtain ⟨S, m2, w2⟩ := strRow 2 a2 n2 c2 d2 p2 h2
  obtain ⟨E, m3, w3⟩ := strRow 3 a3 n3 c3 d3 p3 h3
  clear hA0 hval0 strRow
  refine (walk a0 a1 a2 a3 n0 n1 n2 n3 c0 c1 c2 c3 I A S E W m0 m1 m2 m3 w0 w1 w2 w3).mono fun e W' ⟨he, bel⟩ => ?_
  subst he
  exact ⟨_, rfl, _, _, _, [], _, [], hW', trodAll_mk1 (shut_bool Try.underlying4 _), (trodAll_cons_mk (Below.trod laidOut (by kernel_rfl) (of_decide_eq_true (by kernel_rfl)) h0 bel lt0) (trodAll_cons_mk (Below.trod laidOut (by kernel_rfl) (of_decide_eq_true (by kernel_rfl)) h1 bel lt1) (trodAll_cons_mk (Below.trod laidOut (by kernel_rfl) (of_decide_eq_true (by kernel_rfl)) h2 bel lt2) (trodAll_cons_mk (Below.trod laidOut (by kernel_rfl) (of_decide_eq_true (by kernel_rfl)) h3 bel lt3) trodAll_mk0)))), rfl, bel.frame _, fun h => by cases h⟩

theorem over : Rows.fnShardFindsFirstOwnerOfEveryListedIDRow.holds Try.pinned (OpenSpec.ofChange Rows.fnShardFindsFirstOwnerOfEveryListedIDSpec) :=
  OpenClaim.holds_of_wide 3 Try.f3 rfl rfl rfl rfl rfl rfl rfl ⟨rfl, rfl, rfl, rfl, rfl⟩ rfl rfl rfl rfl rfl (by kernel_rfl) Try.func3 (by kernel_rfl)
    (of_decide_eq_true (by kernel_rfl)) (by unfold Func.isWrapper; first | (rw [if_pos (by decide +kernel)]; kernel_rfl) | (rw [if_neg (by decide +kernel)]; exact ⟨rfl, rfl⟩))
    (fun os started H enc _ => lifted os started H enc)

/-- THE STATEMENT -/
theorem proved : Rows.FnShardFindsFirstOwnerOfEveryListedIDSaid := over
#print axioms proved
end Go.Proofs.Qxb6001492a
