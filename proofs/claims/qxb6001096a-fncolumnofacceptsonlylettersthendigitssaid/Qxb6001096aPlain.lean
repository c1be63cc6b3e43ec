namespace Go.Proofs.Qxb6001096a.Col

/-- A capital letter. -/
def isUp (b : UInt8) : Bool := decide (65 ≤ b.toNat) && decide (b.toNat ≤ 90)
/-- A decimal digit. -/
def isDig (b : UInt8) : Bool := decide (48 ≤ b.toNat) && decide (b.toNat ≤ 57)

/-- The number that letters write, bijective base 26. -/
def valFrom : Nat → List UInt8 → Nat
  | c, [] => c
  | c, b :: l => valFrom (c * 26 + (b.toNat - 65) + 1) l
def val (l : List UInt8) : Nat := valFrom 0 l

theorem valFrom_append (c : Nat) (l m : List UInt8) : valFrom c (l ++ m) = valFrom (valFrom c l) m := by
  induction l generalizing c with
  | nil => rfl
  | cons b l ih => exact ih _

theorem val_snoc (l : List UInt8) (b : UInt8) : val (l ++ [b]) = val l * 26 + (b.toNat - 65) + 1 := by
  unfold val
  rw [valFrom_append]
  rfl

theorem valFrom_le (c : Nat) (l : List UInt8) : c ≤ valFrom c l := by
  induction l generalizing c with
  | nil => exact Nat.le_refl _
  | cons b l ih => exact Nat.le_trans (by omega) (ih (c * 26 + (b.toNat - 65) + 1))

/-- The letter of x modulo 26; the digit of x modulo 10. -/
def lt (x : Nat) : UInt8 := UInt8.ofNat (65 + x % 26)
def dg (x : Nat) : UInt8 := UInt8.ofNat (48 + x % 10)

/-- The letters of x (x = 0: none), with fuel. -/
def cn : Nat → Nat → List UInt8
  | 0, _ => []
  | f + 1, x => if x = 0 then [] else cn f ((x - 1) / 26) ++ [lt (x - 1)]

theorem cn_zero (f : Nat) : cn f 0 = [] := by cases f <;> rfl

theorem toNat_letter (k : Nat) : (lt k).toNat = 65 + k % 26 := by
  unfold lt
  simp [UInt8.toNat_ofNat']
  omega
theorem toNat_digit (k : Nat) : (dg k).toNat = 48 + k % 10 := by
  unfold dg
  simp [UInt8.toNat_ofNat']
  omega
theorem dig_digit (y : Nat) : isDig (dg y) = true := by
  unfold isDig
  rw [toNat_digit]
  simp
  omega

theorem cn_val (f x : Nat) (h : x ≤ f) : val (cn f x) = x := by
  induction f generalizing x with
  | zero => have : x = 0 := by omega
            subst this; rfl
  | succ f ih =>
    unfold cn
    by_cases h0 : x = 0
    · simp [h0, val, valFrom]
    · rw [if_neg h0, val_snoc, ih _ (by omega), toNat_letter]
      omega

theorem isUp_letter (k : Nat) : isUp (lt k) = true := by
  unfold isUp
  rw [toNat_letter k]
  simp
  omega

theorem cn_up (f x : Nat) : ∀ b ∈ cn f x, isUp b = true := by
  induction f generalizing x with
  | zero => intro b hb; simp [cn] at hb
  | succ f ih =>
    intro b hb
    unfold cn at hb
    by_cases h0 : x = 0
    · simp [h0] at hb
    · rw [if_neg h0] at hb
      rcases List.mem_append.1 hb with h | h
      · exact ih _ b h
      · have e := List.mem_singleton.1 h
        rw [e]
        exact isUp_letter _

theorem cn_ne (f x : Nat) (h0 : 0 < x) (hf : x ≤ f) : cn f x ≠ [] := by
  intro h
  have := cn_val f x hf
  rw [h] at this
  simp [val, valFrom] at this
  omega

/-- Letters are the letters of their number. -/
theorem cn_of_val (r : List UInt8) (f : Nat) (hu : ∀ b ∈ r, isUp b = true) (hf : val r.reverse ≤ f) : cn f (val r.reverse) = r.reverse := by
  induction r generalizing f with
  | nil => simp [val, valFrom, cn_zero]
  | cons b r ih =>
    rw [List.reverse_cons, val_snoc] at hf ⊢
    have hb := hu b (List.mem_cons_self ..)
    unfold isUp at hb
    simp at hb
    cases f with
    | zero => omega
    | succ f =>
      unfold cn
      rw [if_neg (by omega)]
      have e1 : (val r.reverse * 26 + (b.toNat - 65) + 1 - 1) / 26 = val r.reverse := by omega
      have e2 : lt (val r.reverse * 26 + (b.toNat - 65) + 1 - 1) = b := by
        apply UInt8.toNat_inj.1
        rw [toNat_letter]
        omega
      rw [e1, e2, ih f (fun c hc => hu c (List.mem_cons_of_mem _ hc)) (by omega)]

theorem cn_of_val' (l : List UInt8) (f : Nat) (hu : ∀ b ∈ l, isUp b = true) (hf : val l ≤ f) : cn f (val l) = l := by
  have := cn_of_val l.reverse f (fun b hb => hu b (List.mem_reverse.1 hb)) (by rw [List.reverse_reverse]; exact hf)
  rwa [List.reverse_reverse] at this

/-- More fuel than is wanted turns nothing. -/
theorem cn_fuel (f g x : Nat) (hf : x ≤ f) (hg : x ≤ g) : cn f x = cn g x := by
  induction f generalizing g x with
  | zero => have : x = 0 := by omega
            subst this; rw [cn_zero, cn_zero]
  | succ f ih =>
    cases g with
    | zero => have : x = 0 := by omega
              subst this; rw [cn_zero, cn_zero]
    | succ g =>
      unfold cn
      by_cases h0 : x = 0
      · simp [h0]
      · rw [if_neg h0, if_neg h0, ih g _ (by omega) (by omega)]

/-- The letters of x. -/
def nm (x : Nat) : List UInt8 := cn x x
theorem nm_zero : nm 0 = [] := rfl
theorem nm_step (x : Nat) (h : 0 < x) : nm x = nm ((x - 1) / 26) ++ [lt (x - 1)] := by
  unfold nm
  obtain ⟨k, rfl⟩ : ∃ k, x = k + 1 := ⟨x - 1, by omega⟩
  have e : cn (k + 1) (k + 1) = cn k ((k + 1 - 1) / 26) ++ [lt (k + 1 - 1)] := by
    rw [cn, if_neg (by omega)]
  rw [e, cn_fuel k ((k + 1 - 1) / 26) _ (by omega) (Nat.le_refl _)]

/-- The leading letters of a text; what is behind them. -/
def up : List UInt8 → List UInt8
  | [] => []
  | b :: l => if isUp b then b :: up l else []
def rest : List UInt8 → List UInt8
  | [] => []
  | b :: l => if isUp b then rest l else b :: l

theorem up_rest (l : List UInt8) : up l ++ rest l = l := by
  induction l with
  | nil => rfl
  | cons b l ih =>
    unfold up rest
    by_cases h : isUp b = true
    · simp [h, ih]
    · simp [h]

theorem up_up (l : List UInt8) : ∀ b ∈ up l, isUp b = true := by
  induction l with
  | nil => intro b hb; simp [up] at hb
  | cons c l ih =>
    intro b hb
    unfold up at hb
    by_cases h : isUp c = true
    · rw [if_pos h] at hb
      rcases List.mem_cons.1 hb with e | e
      · rw [e]; exact h
      · exact ih b e
    · rw [if_neg h] at hb
      simp at hb

/-- What columnOf answers. -/
def colOf (l : List UInt8) : Int :=
  if 16384 < val (up l) then -1
  else if up l = [] ∨ rest l = [] then -1
  else if (rest l).all isDig = true then (val (up l) : Int) - 1 else -1

theorem up_app (L D : List UInt8) (hL : ∀ b ∈ L, isUp b = true) (hD : ∀ b ∈ D, isDig b = true) : up (L ++ D) = L ∧ rest (L ++ D) = D := by
  induction L with
  | nil =>
    cases D with
    | nil => exact ⟨rfl, rfl⟩
    | cons d D =>
      have hd := hD d (List.mem_cons_self ..)
      have : isUp d = false := by
        unfold isDig at hd
        unfold isUp
        simp at hd ⊢
        omega
      simp [up, rest, this]
  | cons b L ih =>
    have h := ih (fun c hc => hL c (List.mem_cons_of_mem _ hc))
    have hb := hL b (List.mem_cons_self ..)
    simp [up, rest, hb, h]

theorem up_take (l : List UInt8) (k : Nat) (h : ∀ b ∈ l.take k, isUp b = true) : up l = l.take k ++ up (l.drop k) ∧ rest l = rest (l.drop k) := by
  induction k generalizing l with
  | zero => simp
  | succ k ih =>
    cases l with
    | nil => simp [up, rest]
    | cons b l =>
      have hb := h b (by simp)
      have := ih l (fun c hc => h c (by simp [hc]))
      simp [up, rest, hb, this.1]
      exact this.2

theorem stop_high (l : List UInt8) (k : Nat) (h : ∀ b ∈ l.take k, isUp b = true) (hv : 16384 < val (l.take k)) : colOf l = -1 := by
  unfold colOf
  rw [(up_take l k h).1]
  have := valFrom_le (val (l.take k)) (up (l.drop k))
  rw [if_pos]
  unfold val at *
  rw [valFrom_append]
  omega

theorem stop_end (l : List UInt8) (h : ∀ b ∈ l, isUp b = true) : colOf l = -1 := by
  have := (up_take l l.length (by simpa using h)).2
  simp [rest] at this
  unfold colOf
  simp [this]

theorem at_other (l : List UInt8) (k : Nat) (b : UInt8) (m : List UInt8) (h : ∀ b ∈ l.take k, isUp b = true) (hd : l.drop k = b :: m) (hb : isUp b = false) (hv : val (l.take k) ≤ 16384) :
    colOf l = if k = 0 then -1 else if (l.drop k).all isDig = true then (val (l.take k) : Int) - 1 else -1 := by
  obtain ⟨h1, h2⟩ := up_take l k h
  have e1 : up (l.drop k) = [] := by rw [hd]; simp [up, hb]
  have e2 : rest (l.drop k) = l.drop k := by rw [hd]; simp [rest, hb]
  rw [e1, List.append_nil] at h1
  rw [e2] at h2
  unfold colOf
  rw [h1, h2, if_neg (by omega)]
  have hne : l ≠ [] := by
    intro e
    rw [e] at hd
    simp at hd
  by_cases hk : k = 0
  · rw [if_pos hk, if_pos]
    left
    simp [hk]
  · rw [if_neg hk, if_neg]
    simp [hd, hne, hk]

theorem all_of (l : List UInt8) (h : ∀ b ∈ l, isDig b = true) : l.all isDig = true := by simpa using h

theorem not_all_of (l : List UInt8) (k : Nat) (hk : k < l.length) (h : isDig l[k] = false) : l.all isDig = false := by
  rw [Bool.eq_false_iff]
  intro e
  have := (List.all_eq_true.1 e) l[k] (List.getElem_mem hk)
  rw [h] at this
  cases this

theorem take_up (l : List UInt8) (p : UInt8 → Bool) (k : Nat) (hk : k < l.length) (h : ∀ b ∈ l.take k, p b = true) (hb : p l[k] = true) : ∀ b ∈ l.take (k + 1), p b = true := by
  intro b hm
  rw [List.take_succ_eq_append_getElem hk] at hm
  rcases List.mem_append.1 hm with e | e
  · exact h b e
  · rw [List.mem_singleton.1 e]; exact hb

theorem val_take (l : List UInt8) (k : Nat) (hk : k < l.length) : val (l.take (k + 1)) = val (l.take k) * 26 + (l[k].toNat - 65) + 1 := by
  rw [List.take_succ_eq_append_getElem hk, val_snoc]

/-- THE FIRST LAW, plain. -/
theorem law1 (n : Nat) (D : List UInt8) (hD : ∀ b ∈ D, isDig b = true) (hne : D ≠ []) :
    colOf (nm (n + 1) ++ D) = if n < 16384 then (n : Int) else -1 := by
  unfold nm
  have hn : n + 1 ≤ n + 1 := Nat.le_refl _
  obtain ⟨h1, h2⟩ := up_app (cn (n + 1) (n + 1)) D (cn_up (n + 1) (n + 1)) hD
  unfold colOf
  rw [h1, h2, cn_val (n + 1) (n + 1) hn]
  by_cases h : n < 16384
  · rw [if_pos h, if_neg (by omega), if_neg (by simp [cn_ne (n + 1) (n + 1) (by omega) hn, hne]), if_pos (by simpa using hD)]
    omega
  · rw [if_neg h, if_pos (by omega)]

/-- THE SECOND LAW, plain. -/
theorem law2 (l : List UInt8) (h : colOf l ≠ -1) : ∃ c : Nat, c < 16384 ∧ colOf l = (c : Int) ∧ l = nm (c + 1) ++ rest l ∧ rest l ≠ [] ∧ (∀ b ∈ rest l, isDig b = true) := by
  unfold colOf at h ⊢
  by_cases h1 : 16384 < val (up l)
  · simp [h1] at h
  · rw [if_neg h1] at h ⊢
    by_cases h2 : up l = [] ∨ rest l = []
    · simp [h2] at h
    · rw [if_neg h2] at h ⊢
      by_cases h3 : (rest l).all isDig = true
      · rw [if_pos h3]
        have hne : up l ≠ [] ∧ rest l ≠ [] := by
          constructor
          · exact fun e => h2 (Or.inl e)
          · exact fun e => h2 (Or.inr e)
        have hpos : 0 < val (up l) := by
          cases hu : up l with
          | nil => exact absurd hu hne.1
          | cons b u =>
            show 0 < valFrom _ u
            exact Nat.lt_of_lt_of_le (by omega) (valFrom_le _ u)
        refine ⟨val (up l) - 1, by omega, by omega, ?_, hne.2, by simpa using h3⟩
        have e : val (up l) - 1 + 1 = val (up l) := by omega
        rw [e, nm, cn_of_val' (up l) _ (up_up l) (Nat.le_refl _), up_rest]
      · simp [h3] at h
end Go.Proofs.Qxb6001096a.Col
