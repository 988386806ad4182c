/-
  Contracts of the small functions on the road: strings.IndexByte at the nine letters, strings.HasPrefix at one quote, isOctal, zzLetter, zzBytes.
-/
import Derived.Test.Qxb6606113aModsRows
import Derived.Test.Qxb6606113aModsPlain
import Derived.WalkKit
import Derived.WalkSpells
import Derived.Lib.Bytealg
namespace Go.Proofs.Qxb6606113aMods
open Go.RowKit Plain

/-- strings.IndexByte. -/
theorem indexByte23 (s : ByteArray) (c : Int) (w : World) :
    Calls Trym.prog 23 #[.string s, .int .u8 c] w fun e w' => e = .returned (.int .i64 (Lib.indexByte s.data.toList c.toNat.toUInt8)) ∧ w = w' := by
  go_enter Trym.func23, Trym.ntmps23
  go_wp2
  rw [run_callFunc_extern Trym.func24 (by kernel_rfl) (by kernel_rfl) (by kernel_rfl) (e := Extern.BytealgIndexByte.indexByte) (by kernel_rfl), Lib.run_indexByteString]
  simp only [Result.andThen]
  rw [Oper.upon_value]
  go_wp2
  go_ret
  exact ⟨rfl, rfl⟩

theorem indexByte20 (s : ByteArray) (c : Int) (w : World) :
    Calls Trym.prog 20 #[.string s, .int .u8 c] w fun e w' => e = .returned (.int .i64 (Lib.indexByte s.data.toList c.toNat.toUInt8)) ∧ w = w' := by
  go_enter Trym.func20, Trym.ntmps20
  go_wp2_with (go_at_call 23; refine (indexByte23 _ _ _).mono ?_; rintro e w' ⟨rfl, rfl⟩)
  go_ret
  exact ⟨rfl, rfl⟩

theorem letters_index (c : UInt8) : Lib.indexByte [34, 92, 97, 98, 102, 110, 114, 116, 118] c = match letJ c with | some j => (j : Int) | none => -1 := by
  have h : ∀ n, n < 256 → Lib.indexByte [34, 92, 97, 98, 102, 110, 114, 116, 118] (UInt8.ofNat n) = match letJ (UInt8.ofNat n) with | some j => (j : Int) | none => -1 := by decide +kernel
  have := h c.toNat (by have := c.toNat_lt; omega)
  simpa using this

theorem letter_some (c : UInt8) (j : Nat) (h : letJ c = some j) (w : World) :
    Calls Trym.prog 20 #[.string ⟨#[34, 92, 97, 98, 102, 110, 114, 116, 118]⟩, .int .u8 (c.toNat : Int)] w fun e w' => e = .returned (.int .i64 (j : Int)) ∧ w = w' := by
  refine (indexByte20 _ _ w).mono ?_
  rintro e w' ⟨rfl, rfl⟩
  have := letters_index c
  rw [h] at this
  simp only at this
  refine ⟨?_, rfl⟩
  congr 2
  simpa using this

theorem letter_none (c : UInt8) (h : letJ c = none) (w : World) :
    Calls Trym.prog 20 #[.string ⟨#[34, 92, 97, 98, 102, 110, 114, 116, 118]⟩, .int .u8 (c.toNat : Int)] w fun e w' => e = .returned (.int .i64 (-1)) ∧ w = w' := by
  refine (indexByte20 _ _ w).mono ?_
  rintro e w' ⟨rfl, rfl⟩
  have := letters_index c
  rw [h] at this
  simp only at this
  refine ⟨?_, rfl⟩
  congr 2
  simpa using this

/-- isOctal. -/
def octB (c : Int) : Bool := decide (48 ≤ c) && decide (c ≤ 55)
theorem octB_yes {c : Int} (h1 : 48 ≤ c) (h2 : c ≤ 55) : octB c = true := by simp [octB, h1, h2]
theorem octB_no {c : Int} (h : c < 48 ∨ 55 < c) : octB c = false := by simp [octB]; omega
theorem octal_any (c : Int) (w : World) : Calls Trym.prog 21 #[.int .u8 c] w fun e w' => e = .returned (.bool (octB c)) ∧ w = w' := by
  by_cases h1 : 48 ≤ c
  · go_enter Trym.func21, Trym.ntmps21
    go_wp2
    go_ret
    refine ⟨?_, rfl⟩
    show Ending.returned (.bool (decide (c ≤ 55))) = _
    simp [octB, h1]
  · go_enter Trym.func21, Trym.ntmps21
    go_wp2
    go_ret
    refine ⟨?_, rfl⟩
    rw [octB_no (.inl (by omega))]
    rfl

/-- strings.HasPrefix(s, one quote). -/
theorem extract_one (s : ByteArray) (h : 0 < s.size) : (s.extract 0 1).toList = [s[0]] := by
  obtain ⟨⟨l⟩⟩ := s
  match l, h with
  | c :: r, h =>
    rw [ByteArray.extract_mk]
    simp
    rfl

theorem prefix_empty (s : ByteArray) (hs : s.size = 0) (w : World) : Calls Trym.prog 19 #[.string s, .string ⟨#[34]⟩] w fun e w' => e = .returned (.bool false) ∧ w = w' := by
  have h0 : (s.size : Int) < 1 := by omega
  have hd : decide ((1 : Int) ≤ (s.size : Int)) = false := decide_eq_false (by omega)
  clear hs
  go_enter Trym.func19, Trym.ntmps19
  go_wp2
  go_ret
  exact ⟨rfl, rfl⟩

theorem prefix_some (s : ByteArray) (hs : 0 < s.size) (w : World) : Calls Trym.prog 19 #[.string s, .string ⟨#[34]⟩] w fun e w' => e = .returned (.bool (s[0] == 34)) ∧ w = w' := by
  have h0 : (1 : Int) ≤ (s.size : Int) := by omega
  have h1 : 1 ≤ s.size := by omega
  have he := extract_one s hs
  go_enter Trym.func19, Trym.ntmps19
  go_wp2
  go_ret
  exact ⟨rfl, rfl⟩

/-- zzLetter. -/
theorem zzLetter_some (c : UInt8) (j : Nat) (h : letJ c = some j) (w : World) : Calls Trym.prog 18 #[.int .u8 (c.toNat : Int)] w fun e w' => e = .returned (.tuple #[.int .u8 ((escB.getD j 0).toNat : Int), .bool true]) ∧ w = w' := by
  unfold letJ at h
  repeat' split at h
  all_goals first
    | (obtain rfl : _ = j := by simpa using h
       rename_i hc
       subst hc
       clear h
       go_enter Trym.func18, Trym.ntmps18
       go_wp2
       go_ret2
       exact ⟨rfl, rfl⟩)
    | (exact absurd h (by simp))

theorem zzLetter_none (c : UInt8) (h : letJ c = none) (w : World) : Calls Trym.prog 18 #[.int .u8 (c.toNat : Int)] w fun e w' => e = .returned (.tuple #[.int .u8 0, .bool false]) ∧ w = w' := by
  have key : ∀ n : Nat, n < 256 → letJ (UInt8.ofNat n) = none → ((n : Int) == 34) = false ∧ ((n : Int) == 92) = false ∧ ((n : Int) == 97) = false ∧ ((n : Int) == 98) = false ∧ ((n : Int) == 102) = false ∧ ((n : Int) == 110) = false ∧ ((n : Int) == 114) = false ∧ ((n : Int) == 116) = false ∧ ((n : Int) == 118) = false := by decide +kernel
  obtain ⟨h1, h2, h3, h4, h5, h6, h7, h8, h9⟩ := key c.toNat (by have := c.toNat_lt; omega) (by simpa using h)
  clear key h
  go_enter Trym.func18, Trym.ntmps18
  go_wp2
  go_ret2
  exact ⟨rfl, rfl⟩

/-- The bound on the length. -/
theorem bytes_yes (s : ByteArray) (h : s.size ≤ 1048576) (w : World) : Calls Trym.prog 13 #[.string s] w fun e w' => e = .returned (.bool true) ∧ w = w' := by
  go_enter Trym.func13, Trym.ntmps13
  go_wp2
  go_ret
  exact ⟨rfl, rfl⟩
theorem bytes_no (s : ByteArray) (h : 1048576 < s.size) (w : World) : Calls Trym.prog 13 #[.string s] w fun e w' => e = .returned (.bool false) ∧ w = w' := by
  go_enter Trym.func13, Trym.ntmps13
  go_wp2
  go_ret
  exact ⟨rfl, rfl⟩

end Go.Proofs.Qxb6606113aMods
