/-
  The plain mathematics of closingQuote: the text is a function from places to bytes and a length.
-/
namespace Go.Proofs.Qxb6608887aMods.Plain

/-- One of the two quotes or the backslash. -/
def setB (c : Int) : Bool := c == 34 || c == 39 || c == 92

/-- How many backslashes stand directly before a place. -/
def bsr (f : Nat → Int) : Nat → Nat
  | 0 => 0
  | i + 1 => if f i = 92 then bsr f i + 1 else 0

theorem bsr_yes (f : Nat → Int) (i : Nat) (h : f i = 92) : bsr f (i + 1) = bsr f i + 1 := by simp [bsr, h]
theorem bsr_no (f : Nat → Int) (i : Nat) (h : ¬ f i = 92) : bsr f (i + 1) = 0 := by simp [bsr, h]
theorem bsr_le (f : Nat → Int) : ∀ i, bsr f i ≤ i
  | 0 => by simp [bsr]
  | i + 1 => by have := bsr_le f i; unfold bsr; split <;> omega

/-- A quote that is not escaped. -/
def hit (f : Nat → Int) (q : Int) (i : Nat) : Bool := f i == q && (!setB q || bsr f i % 2 == 0)

/-- The first place at which it holds: the places that are left, the place. -/
def first (p : Nat → Bool) : Nat → Nat → Int
  | 0, _ => -1
  | m + 1, i => if p i = true then (i : Int) else first p m (i + 1)

theorem first_hit (p : Nat → Bool) (n i : Nat) (hi : i < n) (h : p i = true) : first p (n - i) i = (i : Int) := by
  rw [show n - i = (n - (i + 1)) + 1 by omega]; simp [first, h]
theorem first_miss (p : Nat → Bool) (n i : Nat) (hi : i < n) (h : p i = false) : first p (n - i) i = first p (n - (i + 1)) (i + 1) := by
  rw [show n - i = (n - (i + 1)) + 1 by omega]; simp [first, h]
theorem first_end (p : Nat → Bool) (n i : Nat) (hi : n ≤ i) : first p (n - i) i = -1 := by
  rw [show n - i = 0 by omega]; rfl

/-- The answer. -/
def closing (f : Nat → Int) (n : Nat) (q : Int) : Int := first (hit f q) n 0

/-- Where the reader stands right: an even run of backslashes lies behind, or no byte of the three lies ahead. -/
def right (f : Nat → Int) (n i : Nat) : Prop := bsr f i % 2 = 0 ∨ n ≤ i ∨ setB (f i) = false

theorem right_zero (f : Nat → Int) (n : Nat) : right f n 0 := .inl rfl
theorem right_plain (f : Nat → Int) (n i : Nat) (h : ¬ f i = 92) : right f n (i + 1) := .inl (by rw [bsr_no f i h])
theorem right_even {f : Nat → Int} {n i : Nat} (hr : right f n i) (hi : i < n) (h : setB (f i) = true) : bsr f i % 2 = 0 := by
  rcases hr with h1 | h1 | h1
  · exact h1
  · omega
  · rw [h] at h1; cases h1
theorem right_skip {f : Nat → Int} {n i : Nat} (hr : right f n i) (hi : i < n) (h : f i = 92) : right f n (i + 2) := by
  have he := right_even hr hi (by rw [h]; rfl)
  left
  by_cases h1 : f (i + 1) = 92
  · rw [bsr_yes f (i + 1) h1, bsr_yes f i h]; omega
  · rw [bsr_no f (i + 1) h1]
theorem right_stay {f : Nat → Int} {n i : Nat} (h : n ≤ i + 1 ∨ setB (f (i + 1)) = false) : right f n (i + 1) := .inr h

theorem hit_yes {f : Nat → Int} {n i : Nat} {q : Int} (hr : right f n i) (hi : i < n) (h : f i = q) : hit f q i = true := by
  unfold hit
  by_cases hs : setB q = true
  · have := right_even hr hi (by rw [h]; exact hs)
    simp [h, this]
  · simp [h, hs]
theorem hit_no {f : Nat → Int} {i : Nat} {q : Int} (h : ¬ f i = q) : hit f q i = false := by simp [hit, h]
/-- The byte behind a backslash at which the reader stands right. -/
theorem hit_escaped {f : Nat → Int} {n i : Nat} {q : Int} (hr : right f n i) (hi : i < n) (h : f i = 92) (hs : setB (f (i + 1)) = true) : hit f q (i + 1) = false := by
  have he := right_even hr hi (by rw [h]; rfl)
  by_cases hq : f (i + 1) = q
  · have hb : bsr f (i + 1) % 2 = 1 := by rw [bsr_yes f i h]; omega
    rw [hq] at hs
    simp [hit, hs, hb]
  · exact hit_no hq

/-! ### Appending -/
section appending
variable (fa fb fc : Nat → Int) (na nb : Nat) (q : Int)

theorem bsr_same (h1 : ∀ i, i < na → fc i = fa i) : ∀ i, i ≤ na → bsr fc i = bsr fa i := by
  intro i
  induction i with
  | zero => intro _; rfl
  | succ i ih =>
    intro hi
    unfold bsr
    rw [h1 i (by omega), ih (by omega)]

theorem hit_same (h1 : ∀ i, i < na → fc i = fa i) (i : Nat) (hi : i < na) : hit fc q i = hit fa q i := by
  unfold hit
  rw [h1 i hi, bsr_same fa fc na h1 i (by omega)]

/-- The first places of the long text are the short one's. -/
theorem first_same (h1 : ∀ i, i < na → fc i = fa i) : ∀ m i, i + m = na → first (hit fc q) (m + nb) i = (if first (hit fa q) m i = -1 then first (hit fc q) nb na else first (hit fa q) m i) := by
  intro m
  induction m with
  | zero => intro i hi; simp [first]; rw [show i = na by omega]
  | succ m ih =>
    intro i hi
    rw [show m + 1 + nb = (m + nb) + 1 by omega]
    simp only [first]
    rw [hit_same fa fc na q h1 i (by omega)]
    by_cases hp : hit fa q i = true
    · simp only [hp, if_true]
      have : ¬ (i : Int) = -1 := by omega
      simp [this]
    · simp only [hp]
      exact ih (i + 1) (by omega)

theorem first_range (p : Nat → Bool) : ∀ m i, first p m i = -1 ∨ (i : Int) ≤ first p m i := by
  intro m
  induction m with
  | zero => intro i; left; rfl
  | succ m ih =>
    intro i
    simp only [first]
    split
    · right; omega
    · rcases ih (i + 1) with h | h
      · exact .inl h
      · right; omega

theorem bsr_behind (h2 : ∀ j, j < nb → fc (na + j) = fb j) (he : bsr fc na % 2 = 0) : ∀ j, j ≤ nb → bsr fc (na + j) % 2 = bsr fb j % 2 := by
  intro j
  induction j with
  | zero => intro _; simp [bsr, he]
  | succ j ih =>
    intro hj
    have := ih (by omega)
    rw [show na + (j + 1) = (na + j) + 1 by omega]
    unfold bsr
    rw [h2 j (by omega)]
    split <;> omega

theorem hit_behind (h2 : ∀ j, j < nb → fc (na + j) = fb j) (he : bsr fc na % 2 = 0) (j : Nat) (hj : j < nb) : hit fc q (na + j) = hit fb q j := by
  unfold hit
  rw [h2 j hj, bsr_behind fb fc na nb h2 he j (by omega)]

theorem first_behind (h2 : ∀ j, j < nb → fc (na + j) = fb j) (he : bsr fc na % 2 = 0) : ∀ m j, j + m = nb → first (hit fc q) m (na + j) = (if first (hit fb q) m j = -1 then -1 else na + first (hit fb q) m j) := by
  intro m
  induction m with
  | zero => intro j _; simp [first]
  | succ m ih =>
    intro j hj
    simp only [first]
    rw [hit_behind fb fc na nb q h2 he j (by omega)]
    by_cases hp : hit fb q j = true
    · simp only [hp, if_true]
      have : ¬ (j : Int) = -1 := by omega
      simp [this]
    · simp only [hp]
      exact ih (j + 1) (by omega)

theorem closing_kept (h1 : ∀ i, i < na → fc i = fa i) (h : 0 ≤ closing fa na q) : closing fc (na + nb) q = closing fa na q := by
  have := first_same fa fc na nb q h1 na 0 (by omega)
  unfold closing at h ⊢
  rw [this, if_neg (by omega)]

theorem closing_shift (h1 : ∀ i, i < na → fc i = fa i) (h2 : ∀ j, j < nb → fc (na + j) = fb j) (h : closing fa na q = -1) (he : bsr fa na % 2 = 0) :
    closing fc (na + nb) q = (if closing fb nb q = -1 then -1 else na + closing fb nb q) := by
  have e1 := first_same fa fc na nb q h1 na 0 (by omega)
  have e2 := first_behind fb fc na nb q h2 (by rw [bsr_same fa fc na h1 na (Nat.le_refl _)]; exact he) nb 0 (by omega)
  unfold closing at h ⊢
  rw [e1, if_pos h]
  exact e2

theorem closing_far (h1 : ∀ i, i < na → fc i = fa i) (h : closing fa na q = -1) : closing fc (na + nb) q = -1 ∨ (na : Int) ≤ closing fc (na + nb) q := by
  have e1 := first_same fa fc na nb q h1 na 0 (by omega)
  unfold closing at h ⊢
  rw [e1, if_pos h]
  exact first_range _ nb na
end appending

theorem closing_range (f : Nat → Int) (n : Nat) (q : Int) : closing f n q = -1 ∨ (0 : Int) ≤ closing f n q := first_range _ n 0
theorem first_lt (p : Nat → Bool) : ∀ m i, first p m i < (i : Int) + m + 1 := by
  intro m
  induction m with
  | zero => intro i; simp [first]; omega
  | succ m ih =>
    intro i
    simp only [first]
    split
    · omega
    · have := ih (i + 1); omega
theorem closing_lt (f : Nat → Int) (n : Nat) (q : Int) : closing f n q ≤ (n : Int) := by
  have := first_lt (hit f q) n 0
  unfold closing; omega

end Go.Proofs.Qxb6608887aMods.Plain
