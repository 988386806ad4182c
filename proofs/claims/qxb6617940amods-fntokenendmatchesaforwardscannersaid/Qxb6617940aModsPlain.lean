/-
  The plain mathematics of tokenEnd: the text is a function from places to bytes and a length.
-/
namespace Go.Proofs.Qxb6617940aMods.Plain

/-- A byte at which a number or a literal ends. -/
def endsB (c : Int) : Bool := c == 32 || c == 9 || c == 13 || c == 10 || c == 44 || c == 93 || c == 125
def blankB (c : Int) : Bool := c == 32 || c == 9 || c == 13 || c == 10
/-- A brace or bracket. -/
def delimB (c : Int) : Bool := c == 123 || c == 125 || c == 91 || c == 93

/-- The end of a string, by the forward reader: the places that are left, whether the next byte is escaped, the place. -/
def sEnd (f : Nat → Int) : Nat → Bool → Nat → Nat
  | 0, _, i => i
  | m + 1, esc, i => if esc = true then sEnd f m false (i + 1) else if f i = 92 then sEnd f m true (i + 1) else if f i = 34 then i + 1 else sEnd f m false (i + 1)

/-- The end of a number or literal. -/
def bEnd (f : Nat → Int) : Nat → Nat → Nat
  | 0, i => i
  | m + 1, i => if endsB (f i) = true then i else bEnd f m (i + 1)

/-- How many backslashes stand directly before a place. -/
def bsr (f : Nat → Int) : Nat → Nat
  | 0 => 0
  | i + 1 => if f i = 92 then bsr f i + 1 else 0

def oddB (n : Nat) : Bool := n % 2 == 1

def tok (f : Nat → Int) (n start : Nat) : Nat :=
  if n ≤ start then start else if delimB (f start) = true then start + 1 else if f start = 34 then sEnd f (n - (start + 1)) false (start + 1) else bEnd f (n - start) start

theorem sEnd_bounds (f : Nat → Int) : ∀ (m : Nat) (esc : Bool) (i : Nat), i ≤ sEnd f m esc i ∧ sEnd f m esc i ≤ i + m ∧ (0 < m → i + 1 ≤ sEnd f m esc i) := by
  intro m
  induction m with
  | zero => intro esc i; simp [sEnd]
  | succ m ih =>
    intro esc i
    have h1 := ih false (i + 1)
    have h2 := ih true (i + 1)
    unfold sEnd
    repeat' split
    all_goals omega

theorem bEnd_bounds (f : Nat → Int) : ∀ (m i : Nat), i ≤ bEnd f m i ∧ bEnd f m i ≤ i + m := by
  intro m
  induction m with
  | zero => intro i; simp [bEnd]
  | succ m ih =>
    intro i
    have h1 := ih (i + 1)
    unfold bEnd
    split <;> omega

theorem bEnd_before (f : Nat → Int) : ∀ (m i k : Nat), i ≤ k → k < bEnd f m i → endsB (f k) = false := by
  intro m
  induction m with
  | zero => intro i k h1 h2; simp [bEnd] at h2; omega
  | succ m ih =>
    intro i k h1 h2
    unfold bEnd at h2
    split at h2
    · omega
    · rename_i hne
      by_cases hk : k = i
      · subst hk; simpa using hne
      · exact ih (i + 1) k (by omega) h2

theorem bEnd_at (f : Nat → Int) : ∀ (m i : Nat), bEnd f m i = i + m ∨ endsB (f (bEnd f m i)) = true := by
  intro m
  induction m with
  | zero => intro i; simp [bEnd]
  | succ m ih =>
    intro i
    unfold bEnd
    split
    · rename_i h; exact .inr h
    · rcases ih (i + 1) with h | h
      · left; omega
      · exact .inr h

theorem sEnd_cut (f : Nat → Int) : ∀ (m : Nat) (esc : Bool) (i : Nat), sEnd f (sEnd f m esc i - i) esc i = sEnd f m esc i := by
  intro m
  induction m with
  | zero => intro esc i; simp [sEnd]
  | succ m ih =>
    intro esc i
    have hb := sEnd_bounds f (m + 1) esc i
    obtain ⟨r, hr⟩ : ∃ r, sEnd f (m + 1) esc i = i + 1 + r := ⟨sEnd f (m + 1) esc i - (i + 1), by omega⟩
    rw [hr, show i + 1 + r - i = r + 1 by omega]
    unfold sEnd at hr ⊢
    have key : ∀ e, sEnd f m e (i + 1) = i + 1 + r → sEnd f r e (i + 1) = i + 1 + r := by
      intro e he
      have := ih e (i + 1)
      rw [he, show i + 1 + r - (i + 1) = r by omega] at this
      exact this
    by_cases h1 : esc = true
    · simp only [h1, if_true] at hr ⊢
      exact key _ hr
    · simp only [h1] at hr ⊢
      by_cases h2 : f i = 92
      · simp only [h2, if_true] at hr ⊢
        exact key _ hr
      · simp only [h2] at hr ⊢
        by_cases h3 : f i = 34
        · simp only [h3, if_true] at hr ⊢
          exact hr
        · simp only [h3] at hr ⊢
          exact key _ hr

theorem sEnd_more (f f' : Nat → Int) : ∀ (m m' : Nat) (esc : Bool) (i : Nat), (∀ k, i ≤ k → k < i + m → f' k = f k) → m ≤ m' → sEnd f m esc i < i + m → sEnd f' m' esc i = sEnd f m esc i := by
  intro m
  induction m with
  | zero => intro m' esc i hf hm h; simp [sEnd] at h
  | succ m ih =>
    intro m' esc i hf hm h
    obtain ⟨q, rfl⟩ : ∃ q, m' = q + 1 := ⟨m' - 1, by omega⟩
    have key : ∀ e, sEnd f m e (i + 1) < i + (m + 1) → sEnd f' q e (i + 1) = sEnd f m e (i + 1) := by
      intro e he
      exact ih q e (i + 1) (fun k h1 h2 => hf k (by omega) (by omega)) (by omega) (by omega)
    have hi : f' i = f i := hf i (Nat.le_refl _) (by omega)
    unfold sEnd at h ⊢
    rw [hi]
    by_cases h1 : esc = true
    · simp only [h1, if_true] at h ⊢
      exact key _ h
    · simp only [h1] at h ⊢
      by_cases h2 : f i = 92
      · simp only [h2, if_true] at h ⊢
        exact key _ h
      · simp only [h2] at h ⊢
        by_cases h3 : f i = 34
        · simp only [h3]
          rfl
        · simp only [h3] at h ⊢
          exact key _ h

theorem bEnd_cut (f : Nat → Int) : ∀ (m i : Nat), bEnd f (bEnd f m i - i) i = bEnd f m i := by
  intro m
  induction m with
  | zero => intro i; simp [bEnd]
  | succ m ih =>
    intro i
    by_cases h : endsB (f i) = true
    · have e : bEnd f (m + 1) i = i := by simp [bEnd, h]
      rw [e]; simp [bEnd]
    · have e : bEnd f (m + 1) i = bEnd f m (i + 1) := by simp [bEnd, h]
      have hb := bEnd_bounds f m (i + 1)
      obtain ⟨r, hr⟩ : ∃ r, bEnd f m (i + 1) = i + 1 + r := ⟨bEnd f m (i + 1) - (i + 1), by omega⟩
      have := ih (i + 1)
      rw [hr, show i + 1 + r - (i + 1) = r by omega] at this
      rw [e, hr, show i + 1 + r - i = r + 1 by omega]
      simp [bEnd, h]
      exact this

theorem bEnd_more (f f' : Nat → Int) : ∀ (m m' i : Nat), (∀ k, i ≤ k → k < i + m → f' k = f k) → m ≤ m' → bEnd f m i < i + m → bEnd f' m' i = bEnd f m i := by
  intro m
  induction m with
  | zero => intro m' i hf hm h; simp [bEnd] at h
  | succ m ih =>
    intro m' i hf hm h
    obtain ⟨q, rfl⟩ : ∃ q, m' = q + 1 := ⟨m' - 1, by omega⟩
    have hi : f' i = f i := hf i (Nat.le_refl _) (by omega)
    unfold bEnd at h ⊢
    rw [hi]
    by_cases h1 : endsB (f i) = true
    · simp only [h1, if_true]
    · simp only [h1] at h ⊢
      exact ih q (i + 1) (fun k h1 h2 => hf k (by omega) (by omega)) (by omega) (by simpa using (show bEnd f m (i + 1) < i + 1 + m by simpa [Nat.add_assoc, Nat.add_comm 1 m] using h))

/-! ### The laws of the whole -/
section whole
variable (f : Nat → Int) (n start : Nat)
theorem tok_end (h : start = n) : tok f n start = start := by simp [tok, h]
theorem tok_delim (h : start < n) (hd : delimB (f start) = true) : tok f n start = start + 1 := by
  have : ¬ n ≤ start := by omega
  simp [tok, this, hd]
theorem tok_str (h : start < n) (hq : f start = 34) : tok f n start = sEnd f (n - (start + 1)) false (start + 1) := by
  have : ¬ n ≤ start := by omega
  simp [tok, this, hq, delimB]
theorem tok_bare (h : start < n) (hd : delimB (f start) = false) (hq : ¬ f start = 34) : tok f n start = bEnd f (n - start) start := by
  have : ¬ n ≤ start := by omega
  simp [tok, this, hd, hq]

theorem tok_bounds (h : start ≤ n) : start ≤ tok f n start ∧ tok f n start ≤ n := by
  by_cases he : start = n
  · rw [tok_end f n start he]; omega
  have hlt : start < n := by omega
  by_cases hd : delimB (f start) = true
  · rw [tok_delim f n start hlt hd]; omega
  by_cases hq : f start = 34
  · rw [tok_str f n start hlt hq]
    have := sEnd_bounds f (n - (start + 1)) false (start + 1)
    omega
  · rw [tok_bare f n start hlt (by simpa using hd) hq]
    have := bEnd_bounds f (n - start) start
    omega

theorem tok_past (h : start < n) (hb : blankB (f start) = false) (hc : ¬ f start = 44) : start < tok f n start := by
  by_cases hd : delimB (f start) = true
  · rw [tok_delim f n start h hd]; omega
  by_cases hq : f start = 34
  · rw [tok_str f n start h hq]
    have := sEnd_bounds f (n - (start + 1)) false (start + 1)
    omega
  · rw [tok_bare f n start h (by simpa using hd) hq]
    obtain ⟨m, hm⟩ : ∃ m, n - start = m + 1 := ⟨n - start - 1, by omega⟩
    have he : endsB (f start) = false := by
      simp [blankB] at hb
      simp [delimB] at hd
      simp [endsB]
      omega
    rw [hm]
    have : bEnd f (m + 1) start = bEnd f m (start + 1) := by simp [bEnd, he]
    rw [this]
    have := bEnd_bounds f m (start + 1)
    omega

theorem tok_cut (h : start ≤ n) : tok f (tok f n start) start = tok f n start := by
  by_cases he : start = n
  · rw [tok_end f n start he]; simp [tok]
  have hlt : start < n := by omega
  by_cases hd : delimB (f start) = true
  · rw [tok_delim f n start hlt hd, tok_delim f (start + 1) start (by omega) hd]
  by_cases hq : f start = 34
  · have hb := sEnd_bounds f (n - (start + 1)) false (start + 1)
    rw [tok_str f n start hlt hq, tok_str f _ start (by omega) hq]
    exact sEnd_cut f _ false (start + 1)
  · have hb := bEnd_bounds f (n - start) start
    rw [tok_bare f n start hlt (by simpa using hd) hq]
    by_cases hs : bEnd f (n - start) start = start
    · rw [hs]; simp [tok]
    · rw [tok_bare f _ start (by omega) (by simpa using hd) hq]
      exact bEnd_cut f _ start

theorem tok_more (f' : Nat → Int) (n' : Nat) (hf : ∀ k, k < n → f' k = f k) (hn : n ≤ n') (h : start ≤ n) (hr : tok f n start < n) : tok f' n' start = tok f n start := by
  by_cases he : start = n
  · rw [tok_end f n start he] at hr; omega
  have hlt : start < n := by omega
  have h0 : f' start = f start := hf start hlt
  by_cases hd : delimB (f start) = true
  · rw [tok_delim f n start hlt hd, tok_delim f' n' start (by omega) (by rw [h0]; exact hd)]
  by_cases hq : f start = 34
  · rw [tok_str f n start hlt hq] at hr ⊢
    rw [tok_str f' n' start (by omega) (by rw [h0]; exact hq)]
    exact sEnd_more f f' _ _ false (start + 1) (fun k h1 h2 => hf k (by omega)) (by omega) (by omega)
  · rw [tok_bare f n start hlt (by simpa using hd) hq] at hr ⊢
    rw [tok_bare f' n' start (by omega) (by rw [h0]; simpa using hd) (by rw [h0]; exact hq)]
    exact bEnd_more f f' _ _ start (fun k h1 h2 => hf k (by omega)) (by omega) (by omega)
end whole

/-! ### Counting backwards -/
section back
variable (f : Nat → Int)
theorem bsr_yes (i : Nat) (h : f i = 92) : bsr f (i + 1) = bsr f i + 1 := by simp [bsr, h]
theorem bsr_no (i : Nat) (h : ¬ f i = 92) : bsr f (i + 1) = 0 := by simp [bsr, h]

/-- One place forward, where no unescaped quote stands. -/
theorem sEnd_step (n i : Nat) (hi : i < n) (h : ¬ (f i = 34 ∧ oddB (bsr f i) = false)) :
    sEnd f (n - i) (oddB (bsr f i)) i = sEnd f (n - (i + 1)) (oddB (bsr f (i + 1))) (i + 1) := by
  rw [show n - i = (n - (i + 1)) + 1 by omega]
  by_cases ho : oddB (bsr f i) = true
  · have hn : oddB (bsr f (i + 1)) = false := by
      by_cases hb : f i = 92
      · rw [bsr_yes f i hb]; simp [oddB] at ho ⊢; omega
      · rw [bsr_no f i hb]; rfl
    rw [ho, hn]; simp [sEnd]
  · have ho' : oddB (bsr f i) = false := by simpa using ho
    rw [ho']
    by_cases hb : f i = 92
    · have hn : oddB (bsr f (i + 1)) = true := by
        rw [bsr_yes f i hb]; simp [oddB] at ho' ⊢; omega
      rw [hn]; simp [sEnd, hb]
    · have hq : ¬ f i = 34 := fun hq => h ⟨hq, ho'⟩
      have hn : oddB (bsr f (i + 1)) = false := by rw [bsr_no f i hb]; rfl
      rw [hn]; simp [sEnd, hb, hq]

/-- Over a stretch without a quote. -/
theorem sEnd_skip (n i : Nat) : ∀ j, i + j ≤ n → (∀ t, t < j → ¬ f (i + t) = 34) → sEnd f (n - i) (oddB (bsr f i)) i = sEnd f (n - (i + j)) (oddB (bsr f (i + j))) (i + j) := by
  intro j
  induction j with
  | zero => intro _ _; rfl
  | succ j ih =>
    intro hj hq
    rw [ih (by omega) (fun t ht => hq t (by omega))]
    exact sEnd_step f n (i + j) (by omega) (fun h => hq j (by omega) h.1)

theorem sEnd_none (n i : Nat) (hi : i ≤ n) (h : ∀ t, i + t < n → ¬ f (i + t) = 34) : sEnd f (n - i) (oddB (bsr f i)) i = n := by
  rw [sEnd_skip f n i (n - i) (by omega) (fun t ht => h t (by omega)), show i + (n - i) = n by omega]
  simp [sEnd]

theorem sEnd_found (n i : Nat) (hi : i < n) (hq : f i = 34) (he : oddB (bsr f i) = false) : sEnd f (n - i) (oddB (bsr f i)) i = i + 1 := by
  rw [show n - i = (n - (i + 1)) + 1 by omega, he]
  simp [sEnd, hq]
end back

end Go.Proofs.Qxb6617940aMods.Plain
