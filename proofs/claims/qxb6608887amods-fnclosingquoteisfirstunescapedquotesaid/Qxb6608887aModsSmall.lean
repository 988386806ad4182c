/-
  Contracts of the small functions on closingQuote's road.
-/
import Derived.Test.Qxb6608887aModsRows
import Derived.Test.Qxb6608887aModsPlain
import Derived.WalkKit
import Derived.WalkSpells
import Derived.Lib.Bytealg
namespace Go.Proofs.Qxb6608887aMods
open Go.RowKit Plain

theorem ret_int {k : IntKind} {a b : Int} (h : a = b) : Ending.returned (.int k a) = .returned (.int k b) := by rw [h]

theorem indexByte13 (s : ByteArray) (c : Int) (w : World) :
    Calls Trym.prog 13 #[.string s, .int .u8 c] w fun e w' => e = .returned (.int .i64 (Lib.indexByte s.data.toList c.toNat.toUInt8)) ∧ w = w' := by
  go_enter Trym.func13, Trym.ntmps13
  go_wp2
  rw [run_callFunc_extern Trym.func14 (by kernel_rfl) (by kernel_rfl) (by kernel_rfl) (e := Extern.BytealgIndexByte.indexByte) (by kernel_rfl), Lib.run_indexByteString]
  simp only [Result.andThen]
  rw [Oper.upon_value]
  go_wp2
  go_ret
  exact ⟨rfl, rfl⟩

theorem indexByte12 (s : ByteArray) (c : Int) (w : World) :
    Calls Trym.prog 12 #[.string s, .int .u8 c] w fun e w' => e = .returned (.int .i64 (Lib.indexByte s.data.toList c.toNat.toUInt8)) ∧ w = w' := by
  go_enter Trym.func12, Trym.ntmps12
  go_wp2_with (go_at_call 13; refine (indexByte13 _ _ _).mono ?_; rintro e w' ⟨rfl, rfl⟩)
  go_ret
  exact ⟨rfl, rfl⟩

theorem set_index (c : Int) (h0 : 0 ≤ c) (h1 : c ≤ 255) : decide (0 ≤ Lib.indexByte [39, 34, 92] c.toNat.toUInt8) = setB c := by
  have key : ∀ n : Nat, n < 256 → decide (0 ≤ Lib.indexByte [39, 34, 92] (n : Int).toNat.toUInt8) = setB (n : Int) := by decide +kernel
  have := key c.toNat (by omega)
  rwa [show ((c.toNat : Nat) : Int) = c by omega] at this

/-- strings.IndexByte at the quotes and the backslash: there or not. -/
theorem set_at (c : Int) (h0 : 0 ≤ c) (h1 : c ≤ 255) (w : World) :
    Calls Trym.prog 12 #[.string ⟨#[39, 34, 92]⟩, .int .u8 c] w fun e w' => ∃ x : Int, e = .returned (.int .i64 x) ∧ Hid (decide (0 ≤ x) = setB c) ∧ w = w' := by
  refine (indexByte12 _ _ w).mono ?_
  rintro e w' ⟨rfl, rfl⟩
  exact ⟨_, rfl, set_index c h0 h1, rfl⟩

/-- cqEscapable. -/
theorem escapable_any (q : Int) (w : World) : Calls Trym.prog 11 #[.int .u8 q] w fun e w' => e = .returned (.bool (setB q)) ∧ w = w' := by
  by_cases h1 : (q == 34) = true
  · go_enter Trym.func11, Trym.ntmps11
    go_wp2
    go_ret
    exact ⟨by simp [setB, h1], rfl⟩
  by_cases h2 : (q == 39) = true
  · have h1' : (q == 34) = false := by simpa using h1
    clear h1
    go_enter Trym.func11, Trym.ntmps11
    go_wp2
    go_ret
    exact ⟨by simp [setB, h2], rfl⟩
  · have h1' : (q == 34) = false := by simpa using h1
    have h2' : (q == 39) = false := by simpa using h2
    clear h1 h2
    go_enter Trym.func11, Trym.ntmps11
    go_wp2
    go_ret
    exact ⟨by simp [setB, h1', h2'], rfl⟩

/-! ### The bounds on the lengths -/
theorem bytesI_yes (s : ByteArray) (q : Int) (h : s.size ≤ 1048576) (w : World) : Calls Trym.prog 5 #[.string s, .int .u8 q] w fun e w' => e = .returned (.bool true) ∧ w = w' := by
  go_enter Trym.func5, Trym.ntmps5
  go_wp2
  go_ret
  exact ⟨rfl, rfl⟩
theorem bytesI_no (s : ByteArray) (q : Int) (h : 1048576 < s.size) (w : World) : Calls Trym.prog 5 #[.string s, .int .u8 q] w fun e w' => e = .returned (.bool false) ∧ w = w' := by
  go_enter Trym.func5, Trym.ntmps5
  go_wp2
  go_ret
  exact ⟨rfl, rfl⟩
theorem bytesK_yes (s t : ByteArray) (q : Int) (h : s.size + t.size ≤ 1048576) (w : World) : Calls Trym.prog 8 #[.string s, .string t, .int .u8 q] w fun e w' => e = .returned (.bool true) ∧ w = w' := by
  go_enter Trym.func8, Trym.ntmps8
  go_wp2
  go_ret
  exact ⟨rfl, rfl⟩
theorem bytesK_no (s t : ByteArray) (q : Int) (h : 1048576 < s.size + t.size) (w : World) : Calls Trym.prog 8 #[.string s, .string t, .int .u8 q] w fun e w' => e = .returned (.bool false) ∧ w = w' := by
  by_cases h1 : s.size ≤ 1048576
  · by_cases h2 : t.size ≤ 1048576
    · go_enter Trym.func8, Trym.ntmps8
      go_wp2
      go_ret
      exact ⟨rfl, rfl⟩
    · go_enter Trym.func8, Trym.ntmps8
      go_wp2
      go_ret
      exact ⟨rfl, rfl⟩
  · go_enter Trym.func8, Trym.ntmps8
    go_wp2
    go_ret
    exact ⟨rfl, rfl⟩

/-- The bytes of a string, as a function of the place. -/
def byteAt (s : ByteArray) (i : Nat) : Int := if h : i < s.size then (s[i].toNat : Int) else 0
theorem byteAt_lt (s : ByteArray) (i : Nat) (h : i < s.size) : (s[i].toNat : Int) = byteAt s i := by simp [byteAt, h]
theorem byteAt_range (s : ByteArray) (i : Nat) : 0 ≤ byteAt s i ∧ byteAt s i ≤ 255 := by
  unfold byteAt
  split
  · rename_i h
    have := s[i].toNat_lt
    omega
  · omega

set_option maxHeartbeats 1000000 in
/-- cqBackslashesBefore. -/
theorem before_any (s : ByteArray) (i : Nat) (hs : s.size ≤ 2097152) (hi : i ≤ s.size) (w : World) :
    Calls Trym.prog 9 #[.string s, .int .i64 (i : Int)] w fun e w' => e = .returned (.int .i64 (bsr (byteAt s) i : Int)) ∧ w = w' := by
  obtain ⟨f, hf⟩ : ∃ f, f = byteAt s := ⟨_, rfl⟩
  rw [← hf]
  have HF : Hid (∀ i (h : i < s.size), (s[i].toNat : Int) = f i) := fun i h => by rw [hf]; exact byteAt_lt s i h
  clear hf
  go_enter Trym.func9, Trym.ntmps9
  go_wp2
  go_loop [5, 6] (fun k j => ∃ t : Nat, t ≤ i ∧ k = .int .i64 ((i : Int) - (t : Int)) ∧ j = .int .i64 ((t : Int) - 1) ∧ Hid (bsr f i = (i - t) + bsr f t)) (fun _ j => (intOf j + 1).toNat)
  case atStart => exact ⟨i, Nat.le_refl _, by go_num, by go_num, by show _ = _; omega⟩
  case round =>
    obtain ⟨t, ht, rfl, rfl, HT⟩ := hrel
    cases t with
    | zero =>
      go_wp2
      go_ret
      exact ⟨ret_int (by rw [HT.out]; simp [bsr]), rfl⟩
    | succ t =>
      have hft := HF.out t (by omega)
      by_cases h92 : f t = 92
      · have e92 : (f t == 92) = true := by simp [h92]
        have HT2 : Hid (bsr f i = (i - t) + bsr f t) := by show _ = _; rw [HT.out, bsr_yes f t h92]; omega
        clear h92 HT
        go_wp2
        go_round
        case rel => exact ⟨t, by omega, by go_num, by go_num, HT2⟩
        case measure => simp [intOf]
      · have e92 : (f t == 92) = false := beq_eq_false_iff_ne.2 h92
        have HT2 : Hid (bsr f i = i - (t + 1)) := by show _ = _; rw [HT.out, bsr_no f t h92]; omega
        clear h92 HT
        go_wp2
        go_ret
        exact ⟨ret_int (by rw [HT2.out]; omega), rfl⟩

end Go.Proofs.Qxb6608887aMods
