/-
  The plain mathematics of FnUnquoteMatchesAnEscapeAutomaton: a decoder over a list of bytes. Nothing of the program in sight.
-/
namespace Go.Proofs.Qxb6606113aMods.Plain

/-- Which of the nine escape letters a byte is. -/
def letJ (c : UInt8) : Option Nat :=
  if c = 34 then some 0 else if c = 92 then some 1 else if c = 97 then some 2 else if c = 98 then some 3 else if c = 102 then some 4
  else if c = 110 then some 5 else if c = 114 then some 6 else if c = 116 then some 7 else if c = 118 then some 8 else none

/-- What the nine letters stand for, in order. -/
def escB : List UInt8 := [34, 92, 7, 8, 12, 10, 13, 9, 11]

/-- The decoder: the text, the state, the octal number so far, the bytes so far. -/
def dec : List UInt8 → Nat → Nat → List UInt8 → Option (List UInt8 × List UInt8)
  | [], _, _, _ => none
  | c :: r, st, v, acc =>
    if st = 0 then
      if c = 34 then some (acc, r) else if c = 92 then dec r 1 v acc else dec r 0 v (acc ++ [c])
    else if st = 1 then
      match letJ c with
      | some j => dec r 0 v (acc ++ [escB.getD j 0])
      | none => if 48 ≤ c.toNat ∧ c.toNat ≤ 51 then dec r 2 (c.toNat - 48) acc else none
    else if c.toNat < 48 ∨ 55 < c.toNat then none
    else if st = 2 then dec r 3 (v * 8 + (c.toNat - 48)) acc
    else dec r 0 (v * 8 + (c.toNat - 48)) (acc ++ [UInt8.ofNat (v * 8 + (c.toNat - 48))])

/-- The answer of both functions, of the string's bytes. -/
def ans (l : List UInt8) : Option (List UInt8 × List UInt8) :=
  match l with
  | [] => none
  | c :: r => if c = 34 then dec r 0 0 [] else none

theorem drop_cons (l : List UInt8) (k : Nat) (h : k < l.length) : l.drop k = l[k] :: l.drop (k + 1) := List.drop_eq_getElem_cons h

theorem toNat_ne {c : UInt8} {n : Nat} (hn : n < 256) (h : c.toNat ≠ n) : c ≠ UInt8.ofNat n := by
  intro e; apply h; rw [e]; simp; omega
theorem toNat_eq {c : UInt8} {n : Nat} (h : c.toNat = n) : c = UInt8.ofNat n := by
  rw [← h]; simp

theorem letJ_lt {c : UInt8} {j : Nat} (h : letJ c = some j) : j < 9 := by
  unfold letJ at h
  repeat' split at h
  all_goals first | (cases h; omega) | (simp at h; omega) | simp at h

section steps
variable (l : List UInt8) (k v : Nat) (acc : List UInt8)

theorem dec_end (st : Nat) (h : l.length ≤ k) : dec (l.drop k) st v acc = none := by
  rw [List.drop_eq_nil_of_le h]; rfl

theorem dec_quote (h : k < l.length) (hc : l[k].toNat = 34) : dec (l.drop k) 0 v acc = some (acc, l.drop (k + 1)) := by
  rw [drop_cons l k h]
  have : l[k] = 34 := toNat_eq hc
  simp [dec, this]

theorem dec_plain (h : k < l.length) (h1 : l[k].toNat ≠ 34) (h2 : l[k].toNat ≠ 92) : dec (l.drop k) 0 v acc = dec (l.drop (k + 1)) 0 v (acc ++ [l[k]]) := by
  rw [drop_cons l k h]
  have a : l[k] ≠ 34 := toNat_ne (n := 34) (by omega) h1
  have b : l[k] ≠ 92 := toNat_ne (n := 92) (by omega) h2
  simp [dec, a, b]

theorem dec_back (h : k < l.length) (h1 : l[k].toNat = 92) : dec (l.drop k) 0 v acc = dec (l.drop (k + 1)) 1 v acc := by
  rw [drop_cons l k h]
  have b : l[k] = 92 := toNat_eq h1
  simp [dec, b]

theorem dec_letter (h : k < l.length) {j : Nat} (hj : letJ l[k] = some j) : dec (l.drop k) 1 v acc = dec (l.drop (k + 1)) 0 v (acc ++ [escB.getD j 0]) := by
  rw [drop_cons l k h]
  simp [dec, hj]

theorem dec_digit (h : k < l.length) (hj : letJ l[k] = none) (h1 : 48 ≤ l[k].toNat) (h2 : l[k].toNat ≤ 51) : dec (l.drop k) 1 v acc = dec (l.drop (k + 1)) 2 (l[k].toNat - 48) acc := by
  rw [drop_cons l k h]
  simp [dec, hj, h1, h2]

theorem dec_nodigit (h : k < l.length) (hj : letJ l[k] = none) (h1 : l[k].toNat < 48 ∨ 51 < l[k].toNat) : dec (l.drop k) 1 v acc = none := by
  rw [drop_cons l k h]
  have : ¬ (48 ≤ l[k].toNat ∧ l[k].toNat ≤ 51) := by omega
  simp [dec, hj, this]

theorem dec_nooct (st : Nat) (hst : 2 ≤ st) (h : k < l.length) (h1 : l[k].toNat < 48 ∨ 55 < l[k].toNat) : dec (l.drop k) st v acc = none := by
  rw [drop_cons l k h]
  have a : ¬ st = 0 := by omega
  have b : ¬ st = 1 := by omega
  simp [dec, a, b, h1]

theorem dec_two (h : k < l.length) (h1 : 48 ≤ l[k].toNat) (h2 : l[k].toNat ≤ 55) : dec (l.drop k) 2 v acc = dec (l.drop (k + 1)) 3 (v * 8 + (l[k].toNat - 48)) acc := by
  rw [drop_cons l k h]
  have : ¬ (l[k].toNat < 48 ∨ 55 < l[k].toNat) := by omega
  simp [dec, this]

theorem dec_three (h : k < l.length) (h1 : 48 ≤ l[k].toNat) (h2 : l[k].toNat ≤ 55) : dec (l.drop k) 3 v acc = dec (l.drop (k + 1)) 0 (v * 8 + (l[k].toNat - 48)) (acc ++ [UInt8.ofNat (v * 8 + (l[k].toNat - 48))]) := by
  rw [drop_cons l k h]
  have : ¬ (l[k].toNat < 48 ∨ 55 < l[k].toNat) := by omega
  simp [dec, this]

/-- A whole octal escape. -/
theorem dec_octal (h : k + 3 < l.length) (h0 : l[k].toNat = 92) (hj : letJ l[k + 1] = none) (a1 : 48 ≤ l[k + 1].toNat) (a2 : l[k + 1].toNat ≤ 51)
    (b1 : 48 ≤ l[k + 2].toNat) (b2 : l[k + 2].toNat ≤ 55) (c1 : 48 ≤ l[k + 3].toNat) (c2 : l[k + 3].toNat ≤ 55) :
    ∃ u, dec (l.drop k) 0 v acc = dec (l.drop (k + 4)) 0 u (acc ++ [UInt8.ofNat (((l[k + 1].toNat - 48) * 8 + (l[k + 2].toNat - 48)) * 8 + (l[k + 3].toNat - 48))]) := by
  have e := (dec_back l k v acc (by omega) h0).trans ((dec_digit l (k + 1) v acc (by omega) hj a1 a2).trans ((dec_two l (k + 2) _ acc (by omega) b1 b2).trans (dec_three l (k + 3) _ acc (by omega) c1 c2)))
  exact ⟨_, e⟩

/-- An escape that is neither a letter nor three octal digits. -/
theorem dec_bad (h : k + 1 < l.length) (h0 : l[k].toNat = 92) (hj : letJ l[k + 1] = none)
    (hb : l.length ≤ k + 3 ∨ l[k + 1].toNat < 48 ∨ 51 < l[k + 1].toNat ∨ (∃ g : k + 2 < l.length, l[k + 2].toNat < 48 ∨ 55 < l[k + 2].toNat) ∨ (∃ g : k + 3 < l.length, l[k + 3].toNat < 48 ∨ 55 < l[k + 3].toNat)) :
    dec (l.drop k) 0 v acc = none := by
  rw [dec_back l k v acc (by omega) h0]
  by_cases hd : l[k + 1].toNat < 48 ∨ 51 < l[k + 1].toNat
  · exact dec_nodigit l (k + 1) v acc h hj hd
  rw [dec_digit l (k + 1) v acc h hj (by omega) (by omega)]
  by_cases g2 : k + 2 < l.length
  · by_cases o2 : l[k + 2].toNat < 48 ∨ 55 < l[k + 2].toNat
    · exact dec_nooct l (k + 2) _ acc 2 (by omega) g2 o2
    rw [dec_two l (k + 2) _ acc g2 (by omega) (by omega)]
    by_cases g3 : k + 3 < l.length
    · have o3 : l[k + 3].toNat < 48 ∨ 55 < l[k + 3].toNat := by
        rcases hb with hb | hb | hb | ⟨_, hb⟩ | ⟨_, hb⟩
        · omega
        · omega
        · omega
        · omega
        · exact hb
      exact dec_nooct l (k + 3) _ acc 3 (by omega) g3 o3
    · exact dec_end l (k + 3) _ acc 3 (by omega)
  · exact dec_end l (k + 2) _ acc 2 (by omega)
end steps

theorem ans_open (l : List UInt8) (h : 0 < l.length) (h0 : l[0].toNat = 34) : ans l = dec (l.drop 1) 0 0 [] := by
  match l, h with
  | c :: r, h =>
    have : c = 34 := toNat_eq h0
    simp [ans, this]
theorem ans_shut (l : List UInt8) (h : 0 < l.length) (h0 : l[0].toNat ≠ 34) : ans l = none := by
  match l, h with
  | c :: r, h =>
    have : c ≠ 34 := toNat_ne (n := 34) (by omega) h0
    simp [ans, this]

end Go.Proofs.Qxb6606113aMods.Plain
