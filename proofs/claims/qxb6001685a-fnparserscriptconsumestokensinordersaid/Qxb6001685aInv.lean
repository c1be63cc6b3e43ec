import Derived.Test.Qxb6001685aClone
import Derived.Deep.Draws
namespace Go.Proofs.Qxb6001685a
open Go.RowKit

theorem ne_off {b o o' : Nat} (h : o ≠ o') : (⟨b, o, none⟩ : Addr) ≠ ⟨b, o', none⟩ := by
  intro e
  cases e
  exact h rfl
theorem ne_blk {b b' o o' : Nat} (h : b ≠ b') : (⟨b, o, none⟩ : Addr) ≠ ⟨b', o', none⟩ := by
  intro e
  cases e
  exact h rfl

/-- The n tokens that lie in block b: kind, text, place. -/
def ToksIn (w : World) (b n : Nat) (K : Nat → Int) (X : Nat → ByteArray) : Prop :=
  b < w.heap.size ∧ ∀ i, i < n → w.cell? ⟨b, i * 3, none⟩ = some (.int .u8 (K i)) ∧ w.cell? ⟨b, i * 3 + 1, none⟩ = some (.string (X i)) ∧ w.cell? ⟨b, i * 3 + 2, none⟩ = some (.int .i64 (i : Int))

/-- THE PARSER AT PLACE pos: the tokens in block Z, the parser itself in block P. What lay below Z is as it was in w4. -/
structure Inv (w4 : World) (Z P n : Nat) (K : Nat → Int) (X : Nat → ByteArray) (pos : Nat) (wr : World) : Prop where
  bel : Below Z w4 wr
  toks : ToksIn wr Z n K X
  hZP : Z < P
  lt : P < wr.heap.size
  tk : wr.cell? ⟨P, 1, none⟩ = some (.slice (some ⟨Z, 0, none⟩) n n)
  at' : wr.cell? ⟨P, 2, none⟩ = some (.int .i64 (pos : Int))
  free : wr.frozen? ⟨P, 2, none⟩ = false

section
variable {w4 : World} {Z P n : Nat} {K : Nat → Int} {X : Nat → ByteArray} {pos : Nat} {wr : World}

theorem Inv.grow (h : Inv w4 Z P n K X pos wr) {w' : World} (hb : Below wr.heap.size wr w') : Inv w4 Z P n K X pos w' := by
  have h1 := h.hZP
  have h2 := h.lt
  refine ⟨h.bel.trans (hb.mono (by omega)), ⟨Nat.lt_of_lt_of_le h.toks.1 hb.size, fun i hi => ?_⟩, h1, Nat.lt_of_lt_of_le h2 hb.size, (hb.cell (p := ⟨P, 1, none⟩) h2).trans h.tk, (hb.cell (p := ⟨P, 2, none⟩) h2).trans h.at', (hb.frozen (p := ⟨P, 2, none⟩) h2).trans h.free⟩
  obtain ⟨k0, k1, k2⟩ := h.toks.2 i hi
  exact ⟨(hb.cell (p := ⟨Z, i * 3, none⟩) h.toks.1).trans k0, (hb.cell (p := ⟨Z, i * 3 + 1, none⟩) h.toks.1).trans k1, (hb.cell (p := ⟨Z, i * 3 + 2, none⟩) h.toks.1).trans k2⟩

theorem Inv.drawn (h : Inv w4 Z P n K X pos wr) (q : Nat) : Inv w4 Z P n K X pos (wr.drewN q) :=
  h.grow ⟨rfl, rfl, rfl, Nat.le_refl _, fun _ _ => rfl⟩
theorem Inv.drew (h : Inv w4 Z P n K X pos wr) : Inv w4 Z P n K X pos wr.drew :=
  h.grow ⟨rfl, rfl, rfl, Nat.le_refl _, fun _ _ => rfl⟩

theorem Inv.laid (h : Inv w4 Z P n K X pos wr) (o : Obj) : Inv w4 Z P n K X pos (wr.alloc o) :=
  h.grow ((Below.refl _ _).alloc (Nat.le_refl _) _)

theorem frozen_set (x : World) (a b : Addr) (v : Value) : (x.setCell a v).frozen? b = x.frozen? b :=
  (World.frozen?_setCells a.block [] 0 (x.setCell a v) b).symm.trans (by simp [World.setCells])

theorem Inv.move (h : Inv w4 Z P n K X pos wr) (pos' : Nat) : Inv w4 Z P n K X pos' (wr.setCell ⟨P, 2, none⟩ (.int .i64 (pos' : Int))) := by
  have h1 := h.hZP
  have h2 := h.lt
  refine ⟨h.bel.setCell (by show Z ≤ P; omega) _, ⟨by simpa using h.toks.1, fun i hi => ?_⟩, h1, by simpa using h2, ?_, ?_, ?_⟩
  · obtain ⟨k0, k1, k2⟩ := h.toks.2 i hi
    exact ⟨(World.cell?_setCell_other _ _ _ _ (ne_blk (by omega))).trans k0, (World.cell?_setCell_other _ _ _ _ (ne_blk (by omega))).trans k1, (World.cell?_setCell_other _ _ _ _ (ne_blk (by omega))).trans k2⟩
  · exact (World.cell?_setCell_other _ _ _ _ (ne_off (by omega))).trans h.tk
  · exact World.cell?_setCell_same _ _ _ h.at'
  · rw [frozen_set]
    exact h.free
end
end Go.Proofs.Qxb6001685a
