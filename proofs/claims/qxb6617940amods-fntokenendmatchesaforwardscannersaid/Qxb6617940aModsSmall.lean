/-
  Contracts of the small functions on tokenEnd's road.
-/
import Derived.Test.Qxb6617940aModsRows
import Derived.Test.Qxb6617940aModsPlain
import Derived.WalkKit
import Derived.WalkSpells
import Derived.Shelf.Bytes.SlIndexAt
namespace Go.Proofs.Qxb6617940aMods
open Go.RowKit Plain

theorem isSpace_any (c : Int) (w : World) : Calls Trym.prog 18 #[.int .i32 c] w fun e w' => e = .returned (.bool (blankB c)) ∧ w = w' := by
  by_cases h1 : (c == 32) = true
  · go_enter Trym.func18, Trym.ntmps18
    go_wp2
    go_ret
    exact ⟨by simp [blankB, h1], rfl⟩
  by_cases h2 : (c == 9) = true
  · have h1' : (c == 32) = false := by simpa using h1
    clear h1
    go_enter Trym.func18, Trym.ntmps18
    go_wp2
    go_ret
    exact ⟨by simp [blankB, h2], rfl⟩
  by_cases h3 : (c == 13) = true
  · have h1' : (c == 32) = false := by simpa using h1
    have h2' : (c == 9) = false := by simpa using h2
    clear h1 h2
    go_enter Trym.func18, Trym.ntmps18
    go_wp2
    go_ret
    exact ⟨by simp [blankB, h3], rfl⟩
  · have h1' : (c == 32) = false := by simpa using h1
    have h2' : (c == 9) = false := by simpa using h2
    have h3' : (c == 13) = false := by simpa using h3
    clear h1 h2 h3
    go_enter Trym.func18, Trym.ntmps18
    go_wp2
    go_ret
    exact ⟨by simp [blankB, h1', h2', h3'], rfl⟩

theorem blank_any (c : Int) (w : World) : Calls Trym.prog 11 #[.int .u8 c] w fun e w' => e = .returned (.bool (blankB c)) ∧ w = w' := by
  by_cases h1 : (c == 32) = true
  · go_enter Trym.func11, Trym.ntmps11
    go_wp2
    go_ret
    exact ⟨by simp [blankB, h1], rfl⟩
  by_cases h2 : (c == 9) = true
  · have h1' : (c == 32) = false := by simpa using h1
    clear h1
    go_enter Trym.func11, Trym.ntmps11
    go_wp2
    go_ret
    exact ⟨by simp [blankB, h2], rfl⟩
  by_cases h3 : (c == 13) = true
  · have h1' : (c == 32) = false := by simpa using h1
    have h2' : (c == 9) = false := by simpa using h2
    clear h1 h2
    go_enter Trym.func11, Trym.ntmps11
    go_wp2
    go_ret
    exact ⟨by simp [blankB, h3], rfl⟩
  · have h1' : (c == 32) = false := by simpa using h1
    have h2' : (c == 9) = false := by simpa using h2
    have h3' : (c == 13) = false := by simpa using h3
    clear h1 h2 h3
    go_enter Trym.func11, Trym.ntmps11
    go_wp2
    go_ret
    exact ⟨by simp [blankB, h1', h2', h3'], rfl⟩

theorem endsB_eq (c : Int) : endsB c = (blankB c || c == 44 || c == 93 || c == 125) := by simp [endsB, blankB, Bool.or_assoc]

theorem ends_any (c : Int) (w : World) : Calls Trym.prog 9 #[.int .u8 c] w fun e w' => e = .returned (.bool (endsB c)) ∧ w = w' := by
  rw [endsB_eq]
  cases hb : blankB c with
  | true =>
    go_enter Trym.func9, Trym.ntmps9
    go_wp2_with (go_at_call 11; refine (blank_any _ _).mono ?_; rintro e w' ⟨rfl, rfl⟩)
    go_ret
    exact ⟨by simp, rfl⟩
  | false =>
    by_cases h1 : (c == 44) = true
    · go_enter Trym.func9, Trym.ntmps9
      go_wp2_with (go_at_call 11; refine (blank_any _ _).mono ?_; rintro e w' ⟨rfl, rfl⟩)
      go_ret
      exact ⟨by simp [h1], rfl⟩
    by_cases h2 : (c == 93) = true
    · have h1' : (c == 44) = false := by simpa using h1
      clear h1
      go_enter Trym.func9, Trym.ntmps9
      go_wp2_with (go_at_call 11; refine (blank_any _ _).mono ?_; rintro e w' ⟨rfl, rfl⟩)
      go_ret
      exact ⟨by simp [h2], rfl⟩
    · have h1' : (c == 44) = false := by simpa using h1
      have h2' : (c == 93) = false := by simpa using h2
      clear h1 h2
      go_enter Trym.func9, Trym.ntmps9
      go_wp2_with (go_at_call 11; refine (blank_any _ _).mono ?_; rintro e w' ⟨rfl, rfl⟩)
      go_ret
      exact ⟨by simp [h1', h2'], rfl⟩

/-! ### The bounds on the lengths -/
theorem bytesM_yes (a : Option Addr) (n c : Nat) (st : Int) (h : n ≤ 1048576) (w : World) : Calls Trym.prog 7 #[.slice a n c, .int .i64 st] w fun e w' => e = .returned (.bool true) ∧ w = w' := by
  go_enter Trym.func7, Trym.ntmps7
  go_wp2
  go_ret
  exact ⟨rfl, rfl⟩
theorem bytesM_no (a : Option Addr) (n c : Nat) (st : Int) (h : 1048576 < n) (w : World) : Calls Trym.prog 7 #[.slice a n c, .int .i64 st] w fun e w' => e = .returned (.bool false) ∧ w = w' := by
  go_enter Trym.func7, Trym.ntmps7
  go_wp2
  go_ret
  exact ⟨rfl, rfl⟩
theorem bytesK_yes (a : Option Addr) (n c : Nat) (st : Int) (a2 : Option Addr) (n2 c2 : Nat) (h : n + n2 ≤ 1048576) (w : World) : Calls Trym.prog 10 #[.slice a n c, .int .i64 st, .slice a2 n2 c2] w fun e w' => e = .returned (.bool true) ∧ w = w' := by
  go_enter Trym.func10, Trym.ntmps10
  go_wp2
  go_ret
  exact ⟨rfl, rfl⟩
theorem bytesK_no (a : Option Addr) (n c : Nat) (st : Int) (a2 : Option Addr) (n2 c2 : Nat) (h : 1048576 < n + n2) (w : World) : Calls Trym.prog 10 #[.slice a n c, .int .i64 st, .slice a2 n2 c2] w fun e w' => e = .returned (.bool false) ∧ w = w' := by
  by_cases h1 : n ≤ 1048576
  · by_cases h2 : n2 ≤ 1048576
    · go_enter Trym.func10, Trym.ntmps10
      go_wp2
      go_ret
      exact ⟨rfl, rfl⟩
    · go_enter Trym.func10, Trym.ntmps10
      go_wp2
      go_ret
      exact ⟨rfl, rfl⟩
  · go_enter Trym.func10, Trym.ntmps10
    go_wp2
    go_ret
    exact ⟨rfl, rfl⟩

/-! ### bytes.IndexByte at a quote -/
theorem index17 (a : Addr) (n c : Nat) (xs : List Int) (cv : Int) (w : World) (hx : xs.length = n) (hc : ∀ i, i < n → w.cell? (a.add i) = some (.int .u8 (xs.getD i 0))) :
    Calls Trym.prog 17 #[.slice (some a) n c, .int .u8 cv] w fun e w' => e = .returned (.int .i64 (Lib.indexByte (Lib.bytesOf xs) cv.toNat.toUInt8)) ∧ w = w' := by
  go_enter Trym.func17, Trym.ntmps17
  go_wp2
  rw [run_callFunc_extern Trym.func19 (by kernel_rfl) (by kernel_rfl) (by kernel_rfl) (e := Extern.BytealgIndexByte.indexByte) (by kernel_rfl), Lib.run_indexByteAt w a n c xs hx hc cv]
  simp only [Result.andThen]
  rw [Oper.upon_value]
  go_wp2
  go_ret
  exact ⟨rfl, rfl⟩

end Go.Proofs.Qxb6617940aMods
