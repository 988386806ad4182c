/-
  The walks of the two laws over closingQuote.
-/
import Derived.Test.Qxb6608887aModsClosing
namespace Go.Proofs.Qxb6608887aMods
open Go.RowKit Plain

/-- ZZClosingQuote. -/
theorem zz_any (s : ByteArray) (q : Int) (hs : s.size ≤ 2097152) (w : World) :
    Calls Trym.prog 6 #[.string s, .int .u8 q] w fun e w' => e = .returned (.int .i64 (closing (byteAt s) s.size q)) ∧ w = w' := by
  obtain ⟨A, hA⟩ : ∃ A, closing (byteAt s) s.size q = A := ⟨_, rfl⟩
  have H : Hid (∀ W, Calls Trym.prog 10 #[.string s, .int .u8 q] W fun e w' => e = .returned (.int .i64 A) ∧ W = w') := fun W => by rw [← hA]; exact closing_any s q hs W
  rw [hA]
  clear hA
  go_enter Trym.func6, Trym.ntmps6
  go_wp2_with (go_at_call 10; refine (H.out _).mono ?_; rintro e w' ⟨rfl, rfl⟩)
  go_ret
  exact ⟨rfl, rfl⟩

/-- FnClosingQuoteIsFirstUnescapedQuote. -/
theorem is_first (s : ByteArray) (q : Int) (w : World) :
    Calls Trym.prog 3 #[.string s, .int .u8 q] w fun e w' => e = .returned (.bool true) ∧ w = w' := by
  by_cases hs : s.size ≤ 1048576
  · obtain ⟨A, hA⟩ : ∃ A, closing (byteAt s) s.size q = A := ⟨_, rfl⟩
    have H1 : Hid (∀ W, Calls Trym.prog 6 #[.string s, .int .u8 q] W fun e w' => e = .returned (.int .i64 A) ∧ W = w') := fun W => by rw [← hA]; exact zz_any s q (by omega) W
    have H2 : Hid (∀ W, Calls Trym.prog 7 #[.string s, .int .u8 q] W fun e w' => e = .returned (.int .i64 A) ∧ W = w') := fun W => by rw [← hA]; exact model_any s q (by omega) W
    clear hA
    go_enter Trym.func3, Trym.ntmps3
    go_wp2_with (first
      | (go_at_call 5; refine (bytesI_yes _ _ hs _).mono ?_; rintro e w' ⟨rfl, rfl⟩)
      | (go_at_call 6; refine (H1.out _).mono ?_; rintro e w' ⟨rfl, rfl⟩)
      | (go_at_call 7; refine (H2.out _).mono ?_; rintro e w' ⟨rfl, rfl⟩))
    go_ret
    exact ⟨rfl, rfl⟩
  · go_enter Trym.func3, Trym.ntmps3
    go_wp2_with (go_at_call 5; refine (bytesI_no _ _ (by omega) _).mono ?_; rintro e w' ⟨rfl, rfl⟩)
    go_ret
    exact ⟨rfl, rfl⟩

theorem byteAt_left (a b : ByteArray) (i : Nat) (h : i < a.size) : byteAt (a ++ b) i = byteAt a i := by
  have h2 : i < (a ++ b).size := by rw [ByteArray.size_append]; omega
  rw [← byteAt_lt a i h, ← byteAt_lt (a ++ b) i h2]
  rw [ByteArray.getElem_append_left]
theorem byteAt_right (a b : ByteArray) (j : Nat) (h : j < b.size) : byteAt (a ++ b) (a.size + j) = byteAt b j := by
  have h2 : a.size + j < (a ++ b).size := by rw [ByteArray.size_append]; omega
  rw [← byteAt_lt b j h, ← byteAt_lt (a ++ b) (a.size + j) h2]
  rw [ByteArray.getElem_append_right (by omega)]
  simp

set_option maxRecDepth 10000 in
set_option maxHeartbeats 1000000 in
/-- FnClosingQuoteKeptUnderAppending. -/
theorem kept (a b : ByteArray) (q : Int) (w : World) :
    Calls Trym.prog 4 #[.string a, .string b, .int .u8 q] w fun e w' => e = .returned (.bool true) ∧ w = w' := by
  by_cases hs : a.size + b.size ≤ 1048576
  · have hl := fun i h => byteAt_left a b i h
    have hr := fun j h => byteAt_right a b j h
    have hsz : (a ++ b).size = a.size + b.size := ByteArray.size_append
    obtain ⟨A, hA⟩ : ∃ A, closing (byteAt a) a.size q = A := ⟨_, rfl⟩
    obtain ⟨B, hB⟩ : ∃ B, closing (byteAt b) b.size q = B := ⟨_, rfl⟩
    obtain ⟨C, hC⟩ : ∃ C, closing (byteAt (a ++ b)) (a.size + b.size) q = C := ⟨_, rfl⟩
    obtain ⟨K, hK⟩ : ∃ K, bsr (byteAt a) a.size = K := ⟨_, rfl⟩
    have H1 : Hid (∀ W, Calls Trym.prog 6 #[.string a, .int .u8 q] W fun e w' => e = .returned (.int .i64 A) ∧ W = w') := fun W => by rw [← hA]; exact zz_any a q (by omega) W
    have H2 : Hid (∀ W, Calls Trym.prog 7 #[.string a, .int .u8 q] W fun e w' => e = .returned (.int .i64 A) ∧ W = w') := fun W => by rw [← hA]; exact model_any a q (by omega) W
    have H3 : Hid (∀ W, Calls Trym.prog 6 #[.string (a ++ b), .int .u8 q] W fun e w' => e = .returned (.int .i64 C) ∧ W = w') := fun W => by rw [← hC, ← hsz]; exact zz_any (a ++ b) q (by omega) W
    have H4 : Hid (∀ W, Calls Trym.prog 9 #[.string a, .int .i64 (a.size : Int)] W fun e w' => e = .returned (.int .i64 (K : Int)) ∧ W = w') := fun W => by rw [← hK]; exact before_any a a.size (by omega) (Nat.le_refl _) W
    have H5 : Hid (∀ W, Calls Trym.prog 6 #[.string b, .int .u8 q] W fun e w' => e = .returned (.int .i64 B) ∧ W = w') := fun W => by rw [← hB]; exact zz_any b q (by omega) W
    have rA : A = -1 ∨ 0 ≤ A := by rw [← hA]; exact closing_range _ _ _
    have rB : B = -1 ∨ 0 ≤ B := by rw [← hB]; exact closing_range _ _ _
    have lB : B ≤ (b.size : Int) := by rw [← hB]; exact closing_lt _ _ _
    have lK : K ≤ a.size := by rw [← hK]; exact bsr_le _ _
    have T1 : Hid (0 ≤ A → C = A) := fun h => by rw [← hA] at h ⊢; rw [← hC]; exact closing_kept _ _ _ _ q hl h
    have T2 : Hid (A = -1 → K % 2 = 0 → C = (if B = -1 then -1 else (a.size : Int) + B)) := fun h hk => by rw [← hC, ← hB]; exact closing_shift _ _ _ _ _ q hl hr (by rw [hA]; exact h) (by rw [hK]; exact hk)
    have T3 : Hid (A = -1 → C = -1 ∨ (a.size : Int) ≤ C) := fun h => by rw [← hC]; exact closing_far _ _ _ _ q hl (by rw [hA]; exact h)
    clear hA hB hC hK hl hr hsz
    by_cases hA0 : 0 ≤ A
    · have hCA : (C == A) = true := by rw [T1.out hA0]; simp
      clear rA rB T1 T2 T3
      go_enter Trym.func4, Trym.ntmps4
      go_wp2_with (go_at_call 8; refine (bytesK_yes _ _ _ hs _).mono ?_; rintro e w' ⟨rfl, rfl⟩)
      refine (H1.out _).mono ?_
      rintro e w' ⟨rfl, rfl⟩
      go_wp2_with (go_at_call 7; refine (H2.out _).mono ?_; rintro e w' ⟨rfl, rfl⟩)
      refine (H3.out _).mono ?_
      rintro e w' ⟨rfl, rfl⟩
      go_wp2
      go_ret
      exact ⟨rfl, rfl⟩
    · have hA1 : A = -1 := by omega
      have hneg : A < 0 := by omega
      have T2' := T2.out hA1
      have T3' := T3.out hA1
      clear T1 T2 T3 rA hA1 hA0
      by_cases hk : K % 2 = 0
      · have hk' : (K : Int) % 2 = 0 := by omega
        have T2'' := T2' hk
        clear T2' T3' hk
        by_cases hB1 : B = -1
        · have hC1 : (C == -1) = true := by rw [T2'', if_pos hB1]; rfl
          have hBn : B < 0 := by omega
          clear T2'' hB1 rB
          go_enter Trym.func4, Trym.ntmps4
          go_wp2_with (go_at_call 8; refine (bytesK_yes _ _ _ hs _).mono ?_; rintro e w' ⟨rfl, rfl⟩)
          refine (H1.out _).mono ?_
          rintro e w' ⟨rfl, rfl⟩
          go_wp2_with (go_at_call 7; refine (H2.out _).mono ?_; rintro e w' ⟨rfl, rfl⟩)
          refine (H3.out _).mono ?_
          rintro e w' ⟨rfl, rfl⟩
          go_wp2_with (go_at_call 9; refine (H4.out _).mono ?_; rintro e w' ⟨rfl, rfl⟩)
          refine (H5.out _).mono ?_
          rintro e w' ⟨rfl, rfl⟩
          go_wp2
          go_ret
          exact ⟨rfl, rfl⟩
        · have hB0 : 0 ≤ B := by omega
          have hC1 : (C == (a.size : Int) + B) = true := by rw [T2'', if_neg hB1]; simp
          clear T2'' hB1 rB
          go_enter Trym.func4, Trym.ntmps4
          go_wp2_with (go_at_call 8; refine (bytesK_yes _ _ _ hs _).mono ?_; rintro e w' ⟨rfl, rfl⟩)
          refine (H1.out _).mono ?_
          rintro e w' ⟨rfl, rfl⟩
          go_wp2_with (go_at_call 7; refine (H2.out _).mono ?_; rintro e w' ⟨rfl, rfl⟩)
          refine (H3.out _).mono ?_
          rintro e w' ⟨rfl, rfl⟩
          go_wp2_with (go_at_call 9; refine (H4.out _).mono ?_; rintro e w' ⟨rfl, rfl⟩)
          refine (H5.out _).mono ?_
          rintro e w' ⟨rfl, rfl⟩
          go_wp2
          go_ret
          exact ⟨rfl, rfl⟩
      · have hk' : (K : Int) % 2 = 1 := by omega
        clear T2' hk rB
        by_cases hC1 : C = -1
        · have hC1' : (C == -1) = true := by simp [hC1]
          clear T3' hC1
          go_enter Trym.func4, Trym.ntmps4
          go_wp2_with (go_at_call 8; refine (bytesK_yes _ _ _ hs _).mono ?_; rintro e w' ⟨rfl, rfl⟩)
          refine (H1.out _).mono ?_
          rintro e w' ⟨rfl, rfl⟩
          go_wp2_with (go_at_call 7; refine (H2.out _).mono ?_; rintro e w' ⟨rfl, rfl⟩)
          refine (H3.out _).mono ?_
          rintro e w' ⟨rfl, rfl⟩
          go_wp2_with (go_at_call 9; refine (H4.out _).mono ?_; rintro e w' ⟨rfl, rfl⟩)
          go_ret
          exact ⟨rfl, rfl⟩
        · have hC1' : (C == -1) = false := beq_eq_false_iff_ne.2 hC1
          have hC2 : (a.size : Int) ≤ C := by omega
          clear T3' hC1
          go_enter Trym.func4, Trym.ntmps4
          go_wp2_with (go_at_call 8; refine (bytesK_yes _ _ _ hs _).mono ?_; rintro e w' ⟨rfl, rfl⟩)
          refine (H1.out _).mono ?_
          rintro e w' ⟨rfl, rfl⟩
          go_wp2_with (go_at_call 7; refine (H2.out _).mono ?_; rintro e w' ⟨rfl, rfl⟩)
          refine (H3.out _).mono ?_
          rintro e w' ⟨rfl, rfl⟩
          go_wp2_with (go_at_call 9; refine (H4.out _).mono ?_; rintro e w' ⟨rfl, rfl⟩)
          go_ret
          exact ⟨rfl, rfl⟩
  · go_enter Trym.func4, Trym.ntmps4
    go_wp2_with (go_at_call 8; refine (bytesK_no _ _ _ (by omega) _).mono ?_; rintro e w' ⟨rfl, rfl⟩)
    go_ret
    exact ⟨rfl, rfl⟩

end Go.Proofs.Qxb6608887aMods
