/-
  bytes.IndexByte at a quote, in the words of the plain text.
-/
import Derived.Test.Qxb6617940aModsSmall
namespace Go.Proofs.Qxb6617940aMods
open Go.RowKit Plain

/-- The bytes at the places i, i+1, .. -/
def row (f : Nat → Int) (i : Nat) : Nat → List Int
  | 0 => []
  | m + 1 => f i :: row f (i + 1) m
theorem row_length (f : Nat → Int) : ∀ (m i : Nat), (row f i m).length = m := by
  intro m
  induction m with
  | zero => intro i; rfl
  | succ m ih => intro i; simp [row, ih]
theorem row_at (f : Nat → Int) : ∀ (m i t : Nat), t < m → (row f i m).getD t 0 = f (i + t) := by
  intro m
  induction m with
  | zero => intro i t h; omega
  | succ m ih =>
    intro i t h
    cases t with
    | zero => simp [row]
    | succ t =>
      have := ih (i + 1) t (by omega)
      simp only [row, List.getD_cons_succ]
      rw [this]; congr 1; omega

theorem quote_eq (x : Int) (h0 : 0 ≤ x) (h1 : x ≤ 255) : (UInt8.ofNat x.toNat == 34) = decide (x = 34) := by
  have key : ∀ n, n < 256 → (UInt8.ofNat n == 34) = decide (n = 34) := by decide +kernel
  rw [key x.toNat (by omega)]
  rw [Bool.eq_iff_iff]; simp; omega

theorem row_none (f : Nat → Int) (hf : ∀ i, 0 ≤ f i ∧ f i ≤ 255) : ∀ (m i : Nat), (∀ t, t < m → ¬ f (i + t) = 34) → Lib.indexByte (Lib.bytesOf (row f i m)) 34 = -1 := by
  intro m
  induction m with
  | zero => intro i _; rfl
  | succ m ih =>
    intro i h
    have hi : ¬ f i = 34 := by simpa using h 0 (by omega)
    have e := ih (i + 1) (fun t ht => by have := h (t + 1) (by omega); rwa [show i + (t + 1) = i + 1 + t by omega] at this)
    simp only [row, Lib.bytesOf, List.map_cons, Lib.indexByte]
    rw [quote_eq _ (hf i).1 (hf i).2]
    simp only [Lib.bytesOf] at e
    rw [e]
    simp [hi]
theorem row_found (f : Nat → Int) (hf : ∀ i, 0 ≤ f i ∧ f i ≤ 255) : ∀ (m i j : Nat), j < m → f (i + j) = 34 → (∀ t, t < j → ¬ f (i + t) = 34) → Lib.indexByte (Lib.bytesOf (row f i m)) 34 = (j : Int) := by
  intro m
  induction m with
  | zero => intro i j h; omega
  | succ m ih =>
    intro i j hj hq h
    simp only [row, Lib.bytesOf, List.map_cons, Lib.indexByte]
    rw [quote_eq _ (hf i).1 (hf i).2]
    cases j with
    | zero => simp at hq; simp [hq]
    | succ j =>
      have hi : ¬ f i = 34 := by simpa using h 0 (by omega)
      have e := ih (i + 1) j (by omega) (by rwa [show i + 1 + j = i + (j + 1) by omega]) (fun t ht => by have := h (t + 1) (by omega); rwa [show i + (t + 1) = i + 1 + t by omega] at this)
      simp only [Lib.bytesOf] at e
      rw [e]
      have : ¬ ((j : Int) = -1) := by omega
      simp [hi, this]

theorem index_none (a : Addr) (m c : Nat) (f : Nat → Int) (hf : ∀ i, 0 ≤ f i ∧ f i ≤ 255) (i : Nat) (w : World) (hc : ∀ t, t < m → w.cell? (a.add t) = some (.int .u8 (f (i + t)))) (h : ∀ t, t < m → ¬ f (i + t) = 34) :
    Calls Trym.prog 17 #[.slice (some a) m c, .int .u8 34] w fun e w' => e = .returned (.int .i64 (-1)) ∧ w = w' := by
  refine (index17 a m c (row f i m) 34 w (row_length f m i) (fun t ht => by rw [row_at f m i t ht]; exact hc t ht)).mono ?_
  rintro e w' ⟨rfl, rfl⟩
  exact ⟨by rw [show ((34 : Int).toNat.toUInt8) = 34 from rfl, row_none f hf m i h], rfl⟩

theorem index_found (a : Addr) (m c : Nat) (f : Nat → Int) (hf : ∀ i, 0 ≤ f i ∧ f i ≤ 255) (i j : Nat) (w : World) (hc : ∀ t, t < m → w.cell? (a.add t) = some (.int .u8 (f (i + t)))) (hj : j < m) (hq : f (i + j) = 34) (h : ∀ t, t < j → ¬ f (i + t) = 34) :
    Calls Trym.prog 17 #[.slice (some a) m c, .int .u8 34] w fun e w' => e = .returned (.int .i64 (j : Int)) ∧ w = w' := by
  refine (index17 a m c (row f i m) 34 w (row_length f m i) (fun t ht => by rw [row_at f m i t ht]; exact hc t ht)).mono ?_
  rintro e w' ⟨rfl, rfl⟩
  exact ⟨by rw [show ((34 : Int).toNat.toUInt8) = 34 from rfl, row_found f hf m i j hj hq h], rfl⟩

/-- The first quote from a place on, if there is one. -/
theorem first_quote (f : Nat → Int) (i m : Nat) : (∀ t, t < m → ¬ f (i + t) = 34) ∨ ∃ j, j < m ∧ f (i + j) = 34 ∧ ∀ t, t < j → ¬ f (i + t) = 34 := by
  induction m with
  | zero => left; intro t h; omega
  | succ m ih =>
    rcases ih with h | ⟨j, h1, h2, h3⟩
    · by_cases hq : f (i + m) = 34
      · exact .inr ⟨m, by omega, hq, h⟩
      · left
        intro t ht
        by_cases e : t = m
        · subst e; exact hq
        · exact h t (by omega)
    · exact .inr ⟨j, by omega, h2, h3⟩

end Go.Proofs.Qxb6617940aMods
