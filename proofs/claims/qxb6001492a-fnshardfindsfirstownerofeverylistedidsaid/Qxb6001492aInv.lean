import Derived.Test.Qxb6001492aShard
namespace Go.Proofs.Qxb6001492a
open Go.RowKit

/-- The world with four cells stored. -/
def put4 (w : World) (b p : Nat) (v0 v1 v2 v3 : Value) : World := (((w.setCell ⟨b, p, none⟩ v0).setCell ⟨b, p + 1, none⟩ v1).setCell ⟨b, p + 2, none⟩ v2).setCell ⟨b, p + 3, none⟩ v3

theorem ne_off {b o o' : Nat} (h : o ≠ o') : (⟨b, o, none⟩ : Addr) ≠ ⟨b, o', none⟩ := by
  intro e
  cases e
  exact h rfl
theorem ne_blk {b b' o o' : Nat} (h : b ≠ b') : (⟨b, o, none⟩ : Addr) ≠ ⟨b', o', none⟩ := by
  intro e
  cases e
  exact h rfl

theorem put4_other (w : World) (b p : Nat) (v0 v1 v2 v3 : Value) (b' o : Nat) (h : b ≠ b' ∨ o < p ∨ p + 3 < o) : (put4 w b p v0 v1 v2 v3).cell? ⟨b', o, none⟩ = w.cell? ⟨b', o, none⟩ := by
  unfold put4
  have hx : ∀ t, t ≤ 3 → (⟨b, p + t, none⟩ : Addr) ≠ ⟨b', o, none⟩ := by
    intro t ht
    rcases h with h | h
    · exact ne_blk h
    · by_cases e : b = b'
      · subst e
        exact ne_off (by omega)
      · exact ne_blk e
  rw [World.cell?_setCell_other _ _ _ _ (hx 3 (by omega)), World.cell?_setCell_other _ _ _ _ (hx 2 (by omega)), World.cell?_setCell_other _ _ _ _ (hx 1 (by omega))]
  exact World.cell?_setCell_other _ _ _ _ (hx 0 (by omega))

theorem put4_own (w : World) (b p : Nat) (v0 v1 v2 v3 : Value) (h : ∀ t, t ≤ 3 → ∃ v, w.cell? ⟨b, p + t, none⟩ = some v) :
    (put4 w b p v0 v1 v2 v3).cell? ⟨b, p, none⟩ = some v0 ∧ (put4 w b p v0 v1 v2 v3).cell? ⟨b, p + 1, none⟩ = some v1 ∧ (put4 w b p v0 v1 v2 v3).cell? ⟨b, p + 2, none⟩ = some v2 ∧ (put4 w b p v0 v1 v2 v3).cell? ⟨b, p + 3, none⟩ = some v3 := by
  obtain ⟨x0, h0⟩ := h 0 (by omega)
  obtain ⟨x1, h1⟩ := h 1 (by omega)
  obtain ⟨x2, h2⟩ := h 2 (by omega)
  obtain ⟨x3, h3⟩ := h 3 (by omega)
  unfold put4
  refine ⟨?_, ?_, ?_, ?_⟩
  · rw [World.cell?_setCell_other _ _ _ _ (ne_off (by omega)), World.cell?_setCell_other _ _ _ _ (ne_off (by omega)), World.cell?_setCell_other _ _ _ _ (ne_off (by omega))]
    exact World.cell?_setCell_same _ _ _ h0
  · rw [World.cell?_setCell_other _ _ _ _ (ne_off (by omega)), World.cell?_setCell_other _ _ _ _ (ne_off (by omega))]
    exact World.cell?_setCell_same _ _ _ ((World.cell?_setCell_other _ _ _ _ (ne_off (by omega))).trans h1)
  · rw [World.cell?_setCell_other _ _ _ _ (ne_off (by omega))]
    exact World.cell?_setCell_same _ _ _ (((World.cell?_setCell_other _ _ _ _ (ne_off (by omega))).trans (World.cell?_setCell_other _ _ _ _ (ne_off (by omega)))).trans h2)
  · exact World.cell?_setCell_same _ _ _ ((((World.cell?_setCell_other _ _ _ _ (ne_off (by omega))).trans (World.cell?_setCell_other _ _ _ _ (ne_off (by omega)))).trans (World.cell?_setCell_other _ _ _ _ (ne_off (by omega)))).trans h3)

/-- WHAT HOLDS AT EACH ROUND's HEAD: the shards in block Z, the cluster in Z + 1, the answers so far in Z + 2. -/
structure Inv (w4 : World) (Z n : Nat) (I : Nat → Int) (A S E : Nat → ByteArray) (F : Nat → Nat) (k : Nat) (wr : World) : Prop where
  bel : Below Z w4 wr
  sh : ShsIn wr Z n I A S E
  cl : wr.cell? ⟨Z + 1, 1, none⟩ = some (.slice (some ⟨Z, 0, none⟩) n n)
  got : ShsIn wr (Z + 2) k (fun i => I (F i)) (fun i => A (F i)) (fun i => S (F i)) (fun i => E (F i))
  room : ∀ o, o < n * 4 → ∃ v, wr.cell? ⟨Z + 2, o, none⟩ = some v
  free : ∀ o, wr.frozen? ⟨Z + 2, o, none⟩ = false

section
variable {w4 : World} {Z n : Nat} {I : Nat → Int} {A S E : Nat → ByteArray} {F : Nat → Nat} {k : Nat} {wr : World}

theorem Inv.sz (h : Inv w4 Z n I A S E F k wr) : Z + 2 < wr.heap.size := h.got.1

theorem Inv.grow (h : Inv w4 Z n I A S E F k wr) {w' : World} (hb : Below wr.heap.size wr w') : Inv w4 Z n I A S E F k w' := by
  have hz := h.sz
  refine ⟨h.bel.trans (hb.mono (by omega)), h.sh.below hb (by omega), (hb.cell (p := ⟨Z + 1, 1, none⟩) (by show Z + 1 < _; omega)).trans h.cl, h.got.below hb hz, fun o ho => ?_, fun o => ?_⟩
  · obtain ⟨v, hv⟩ := h.room o ho
    exact ⟨v, (hb.cell (p := ⟨Z + 2, o, none⟩) hz).trans hv⟩
  · exact (hb.frozen (p := ⟨Z + 2, o, none⟩) hz).trans (h.free o)

theorem Inv.drawn (h : Inv w4 Z n I A S E F k wr) (q : Nat) : Inv w4 Z n I A S E F k (wr.drewN q) :=
  h.grow ⟨rfl, rfl, rfl, Nat.le_refl _, fun _ _ => rfl⟩

theorem Inv.laid (h : Inv w4 Z n I A S E F k wr) (o : Obj) : Inv w4 Z n I A S E F k (wr.alloc o) :=
  h.grow ((Below.refl _ _).alloc (Nat.le_refl _) _)

theorem Inv.put (h : Inv w4 Z n I A S E F k wr) (hk : k < n) :
    Inv w4 Z n I A S E F (k + 1) (put4 wr (Z + 2) (k * 4) (.int .i64 (I (F k))) (.string (A (F k))) (.string (S (F k))) (.string (E (F k)))) := by
  have hz := h.sz
  have hsize : ∀ v0 v1 v2 v3, (put4 wr (Z + 2) (k * 4) v0 v1 v2 v3).heap.size = wr.heap.size := by intro v0 v1 v2 v3; simp [put4]
  have hroom := put4_own wr (Z + 2) (k * 4) (.int .i64 (I (F k))) (.string (A (F k))) (.string (S (F k))) (.string (E (F k))) (fun t ht => h.room _ (by omega))
  refine ⟨?_, ⟨by rw [hsize]; exact h.sh.1, fun i hi => ?_⟩, ?_, ⟨by rw [hsize]; exact hz, fun i hi => ?_⟩, fun o ho => ?_, fun o => ?_⟩
  · exact (((h.bel.setCell (by show Z ≤ Z + 2; omega) _).setCell (by show Z ≤ Z + 2; omega) _).setCell (by show Z ≤ Z + 2; omega) _).setCell (by show Z ≤ Z + 2; omega) _
  · obtain ⟨h0, h1, h2, h3⟩ := h.sh.2 i hi
    exact ⟨(put4_other _ _ _ _ _ _ _ _ _ (Or.inl (by omega))).trans h0, (put4_other _ _ _ _ _ _ _ _ _ (Or.inl (by omega))).trans h1, (put4_other _ _ _ _ _ _ _ _ _ (Or.inl (by omega))).trans h2, (put4_other _ _ _ _ _ _ _ _ _ (Or.inl (by omega))).trans h3⟩
  · exact (put4_other _ _ _ _ _ _ _ _ _ (Or.inl (by omega))).trans h.cl
  · by_cases e : i = k
    · subst e
      exact hroom
    · obtain ⟨h0, h1, h2, h3⟩ := h.got.2 i (by omega)
      exact ⟨(put4_other _ _ _ _ _ _ _ _ _ (Or.inr (by omega))).trans h0, (put4_other _ _ _ _ _ _ _ _ _ (Or.inr (by omega))).trans h1, (put4_other _ _ _ _ _ _ _ _ _ (Or.inr (by omega))).trans h2, (put4_other _ _ _ _ _ _ _ _ _ (Or.inr (by omega))).trans h3⟩
  · by_cases e : o < k * 4 ∨ k * 4 + 3 < o
    · obtain ⟨v, hv⟩ := h.room o ho
      exact ⟨v, (put4_other _ _ _ _ _ _ _ _ _ (Or.inr e)).trans hv⟩
    · obtain ⟨h0, h1, h2, h3⟩ := hroom
      have e4 : o = k * 4 ∨ o = k * 4 + 1 ∨ o = k * 4 + 2 ∨ o = k * 4 + 3 := by omega
      rcases e4 with rfl | rfl | rfl | rfl
      · exact ⟨_, h0⟩
      · exact ⟨_, h1⟩
      · exact ⟨_, h2⟩
      · exact ⟨_, h3⟩
  · have hf : ∀ (x : World) (a b : Addr) (v : Value), (x.setCell a v).frozen? b = x.frozen? b := fun x a b v => World.frozen?_setCells a.block [] 0 (x.setCell a v) b |>.symm.trans (by simp [World.setCells])
    unfold put4
    rw [hf, hf, hf, hf]
    exact h.free o
end

/-- At the loop's start. -/
theorem inv_start (w4 : World) (n q : Nat) (I : Nat → Int) (A S E : Nat → ByteArray) (F : Nat → Nat) (arr : Array Value) (h : Shs arr n I A S E) (v0 v2 : Value) (z : Array Value) :
    Inv w4 w4.heap.size n I A S E F 0 ((((w4.alloc (.cells arr 35)).drewN q).alloc (.cells #[v0, .slice (some ⟨w4.heap.size, 0, none⟩) n n, v2] 33)).alloc (.cells (madeCells z (n * 4)) 35)) := by
  have s1 : ((w4.alloc (.cells arr 35)).drewN q).heap.size = w4.heap.size + 1 := by simp
  have hb1 : Below w4.heap.size w4 ((w4.alloc (.cells arr 35)).drewN q) := ⟨rfl, rfl, rfl, by rw [s1]; omega, ((Below.refl w4.heap.size w4).alloc (Nat.le_refl _) (.cells arr 35)).block⟩
  have hs1 : ShsIn ((w4.alloc (.cells arr 35)).drewN q) w4.heap.size n I A S E := by
    refine ⟨by rw [s1]; omega, fun i hi => ?_⟩
    obtain ⟨h0, h1, h2, h3⟩ := h i hi
    exact ⟨(World.cell?_alloc_at arr 35 w4.heap.size _ rfl).trans h0, (World.cell?_alloc_at arr 35 w4.heap.size _ rfl).trans h1, (World.cell?_alloc_at arr 35 w4.heap.size _ rfl).trans h2, (World.cell?_alloc_at arr 35 w4.heap.size _ rfl).trans h3⟩
  generalize (w4.alloc (.cells arr 35)).drewN q = w5 at *
  have hbc : Below w5.heap.size w5 (w5.alloc (.cells #[v0, .slice (some ⟨w4.heap.size, 0, none⟩) n n, v2] 33)) := (Below.refl _ _).alloc (Nat.le_refl _) _
  have hcl : (w5.alloc (.cells #[v0, .slice (some ⟨w4.heap.size, 0, none⟩) n n, v2] 33)).cell? ⟨w4.heap.size + 1, 1, none⟩ = some (.slice (some ⟨w4.heap.size, 0, none⟩) n n) :=
    (World.cell?_alloc_at _ 33 (w4.heap.size + 1) 1 s1.symm).trans rfl
  have s2 : (w5.alloc (.cells #[v0, .slice (some ⟨w4.heap.size, 0, none⟩) n n, v2] 33)).heap.size = w4.heap.size + 2 := by simp [s1]
  have hb2 := hb1.trans (hbc.mono (by omega))
  have hs2 := hs1.below hbc (by omega)
  generalize w5.alloc (.cells #[v0, .slice (some ⟨w4.heap.size, 0, none⟩) n n, v2] 33) = w6 at *
  have hbd : Below w6.heap.size w6 (w6.alloc (.cells (madeCells z (n * 4)) 35)) := (Below.refl _ _).alloc (Nat.le_refl _) _
  have s3 : (w6.alloc (.cells (madeCells z (n * 4)) 35)).heap.size = w4.heap.size + 3 := by simp [s2]
  refine ⟨hb2.trans (hbd.mono (by omega)), hs2.below hbd (by omega), (hbd.cell (p := ⟨w4.heap.size + 1, 1, none⟩) (by show w4.heap.size + 1 < _; omega)).trans hcl, ⟨by omega, fun i hi => absurd hi (Nat.not_lt_zero _)⟩, fun o ho => ?_, fun o => ?_⟩
  · rw [World.cell?_alloc_at _ 35 (w4.heap.size + 2) o s2.symm]
    exact ⟨(madeCells z (n * 4))[o]'(by rw [size_madeCells]; exact ho), Array.getElem?_eq_getElem _⟩
  · exact World.frozen?_alloc_at _ 35 (w4.heap.size + 2) o s2.symm

/-- The first place that bears the id of place i. -/
theorem first_owner (I : Nat → Int) : ∃ F : Nat → Nat, (∀ i, F i ≤ i ∧ I (F i) = I i ∧ ∀ l, l < F i → I l ≠ I i) ∧ (∀ i j, I i = I j → F i = F j) := by
  have h1 : ∀ i, ∃ j, j ≤ i ∧ I j = I i ∧ ∀ l, l < j → I l ≠ I i := by
    intro i
    have : ∀ m j, i - j = m → j ≤ i → (∀ l, l < j → I l ≠ I i) → ∃ j, j ≤ i ∧ I j = I i ∧ ∀ l, l < j → I l ≠ I i := by
      intro m
      induction m with
      | zero =>
        intro j hm hj hl
        have : j = i := by omega
        subst this
        exact ⟨j, Nat.le_refl _, rfl, hl⟩
      | succ m ih =>
        intro j hm hj hl
        by_cases e : I j = I i
        · exact ⟨j, hj, e, hl⟩
        · refine ih (j + 1) (by omega) (by omega) (fun l hll => ?_)
          by_cases e2 : l = j
          · subst e2; exact e
          · exact hl l (by omega)
    exact this i 0 (by omega) (Nat.zero_le _) (fun l hl => absurd hl (Nat.not_lt_zero _))
  obtain ⟨F, hF⟩ := Classical.axiomOfChoice h1
  refine ⟨F, hF, fun i j e => ?_⟩
  rcases Nat.lt_trichotomy (F i) (F j) with h | h | h
  · have := (hF j).2.2 (F i) h
    rw [(hF i).2.1, e] at this
    exact absurd rfl this
  · exact h
  · have := (hF i).2.2 (F j) h
    rw [(hF j).2.1, e] at this
    exact absurd rfl this
end Go.Proofs.Qxb6001492a
