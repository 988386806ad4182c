/-
  closingQuote and cqModel compute 'closing'.
-/
import Derived.Test.Qxb6608887aModsSmall
namespace Go.Proofs.Qxb6608887aMods
open Go.RowKit Plain

set_option maxRecDepth 10000 in
set_option maxHeartbeats 1000000 in
theorem model_any (s : ByteArray) (q : Int) (hs : s.size ≤ 2097152) (w : World) :
    Calls Trym.prog 7 #[.string s, .int .u8 q] w fun e w' => e = .returned (.int .i64 (closing (byteAt s) s.size q)) ∧ w = w' := by
  obtain ⟨f, hf⟩ : ∃ f, f = byteAt s := ⟨_, rfl⟩
  have HB : Hid (∀ i, i ≤ s.size → ∀ W, Calls Trym.prog 9 #[.string s, .int .i64 (i : Int)] W fun e w' => e = .returned (.int .i64 (bsr f i : Int)) ∧ W = w') := fun i hi W => by rw [hf]; exact before_any s i hs hi W
  rw [← hf]
  have HF : Hid (∀ i (h : i < s.size), (s[i].toNat : Int) = f i) := fun i h => by rw [hf]; exact byteAt_lt s i h
  clear hf
  obtain ⟨A, hA⟩ : ∃ A, closing f s.size q = A := ⟨_, rfl⟩
  rw [hA]
  have HA : Hid (first (hit f q) (s.size - 0) 0 = A) := hA
  clear hA
  obtain ⟨sb, hsb⟩ : ∃ sb, setB q = sb := ⟨_, rfl⟩
  have HS : Hid (setB q = sb) := hsb
  have HE : Hid (∀ W, Calls Trym.prog 11 #[.int .u8 q] W fun e w' => e = .returned (.bool sb) ∧ W = w') := fun W => by rw [← hsb]; exact escapable_any q W
  clear hsb
  go_enter Trym.func7, Trym.ntmps7
  go_wp2_with (go_at_call 11; refine (HE.out _).mono ?_; rintro e w' ⟨rfl, rfl⟩)
  go_loop [6] (fun t => ∃ i : Nat, i ≤ s.size ∧ t = .int .i64 i ∧ Hid (first (hit f q) (s.size - i) i = A)) (fun t => s.size - (intOf t).toNat)
  case atStart => exact ⟨0, by omega, rfl, HA⟩
  case round =>
    obtain ⟨i, hi, rfl, HI⟩ := hrel
    clear HA HE
    by_cases hin : i < s.size
    · have hfi := HF.out i hin
      have hbl := bsr_le f i
      have hb9 := HB.out i hi
      obtain ⟨b, hb⟩ : ∃ b, bsr f i = b := ⟨_, rfl⟩
      rw [hb] at hbl hb9
      have HB9 : Hid (∀ W, Calls Trym.prog 9 #[.string s, .int .i64 (i : Int)] W fun e w' => e = .returned (.int .i64 (b : Int)) ∧ W = w') := hb9
      have HBB : Hid (bsr f i = b) := hb
      clear hb9 hb HB
      by_cases hq : f i = q
      · have hq' : (f i == q) = true := by simp [hq]
        cases sb with
        | false =>
          have hh : hit f q i = true := by simp [hit, hq, HS.out]
          have HAi : Hid (A = (i : Int)) := by show _ = _; rw [← HI.out]; exact first_hit _ _ i hin hh
          clear hh hq HI
          go_wp2_with (go_at_call 9; refine (HB9.out _).mono ?_; rintro e w' ⟨rfl, rfl⟩)
          go_ret
          exact ⟨ret_int HAi.out.symm, rfl⟩
        | true =>
          by_cases hev : b % 2 = 0
          · have hev' : (b : Int) % 2 = 0 := by omega
            have hh : hit f q i = true := by simp [hit, hq, HBB.out, hev]
            have HAi : Hid (A = (i : Int)) := by show _ = _; rw [← HI.out]; exact first_hit _ _ i hin hh
            clear hh hq HI hev
            go_wp2_with (go_at_call 9; refine (HB9.out _).mono ?_; rintro e w' ⟨rfl, rfl⟩)
            go_ret
            exact ⟨ret_int HAi.out.symm, rfl⟩
          · have hev' : (b : Int) % 2 = 1 := by omega
            have hh : hit f q i = false := by simp [hit, HS.out, HBB.out]; omega
            have HI2 : Hid (first (hit f q) (s.size - (i + 1)) (i + 1) = A) := by show _ = _; rw [← HI.out]; exact (first_miss _ _ i hin hh).symm
            clear hh hq HI hev
            go_wp2_with (go_at_call 9; refine (HB9.out _).mono ?_; rintro e w' ⟨rfl, rfl⟩)
            go_round
            case rel => exact ⟨i + 1, by omega, by go_num, HI2⟩
            case measure => simp [intOf]; omega
      · have hq' : (f i == q) = false := beq_eq_false_iff_ne.2 hq
        have HI2 : Hid (first (hit f q) (s.size - (i + 1)) (i + 1) = A) := by show _ = _; rw [← HI.out]; exact (first_miss _ _ i hin (hit_no hq)).symm
        clear hq HI
        go_wp2_with (go_at_call 9; refine (HB9.out _).mono ?_; rintro e w' ⟨rfl, rfl⟩)
        go_round
        case rel => exact ⟨i + 1, by omega, by go_num, HI2⟩
        case measure => simp [intOf]; omega
    · have HAe : Hid (A = -1) := by show _ = _; rw [← HI.out]; exact first_end _ _ i (by omega)
      clear HI
      go_wp2
      go_ret
      exact ⟨ret_int HAe.out.symm, rfl⟩

set_option maxRecDepth 10000 in
set_option maxHeartbeats 1000000 in
theorem closing_any (s : ByteArray) (q : Int) (hs : s.size ≤ 2097152) (w : World) :
    Calls Trym.prog 10 #[.string s, .int .u8 q] w fun e w' => e = .returned (.int .i64 (closing (byteAt s) s.size q)) ∧ w = w' := by
  obtain ⟨f, hf⟩ : ∃ f, f = byteAt s := ⟨_, rfl⟩
  have HG : Hid (∀ i, 0 ≤ f i ∧ f i ≤ 255) := fun i => by rw [hf]; exact byteAt_range s i
  rw [← hf]
  have HF : Hid (∀ i (h : i < s.size), (s[i].toNat : Int) = f i) := fun i h => by rw [hf]; exact byteAt_lt s i h
  clear hf
  obtain ⟨A, hA⟩ : ∃ A, closing f s.size q = A := ⟨_, rfl⟩
  rw [hA]
  have HA : Hid (first (hit f q) (s.size - 0) 0 = A) := hA
  clear hA
  go_enter Trym.func10, Trym.ntmps10
  go_wp2
  go_loop [5] (fun t => ∃ i : Nat, i ≤ s.size ∧ t = .int .i64 i ∧ Hid (right f s.size i) ∧ Hid (first (hit f q) (s.size - i) i = A)) (fun t => s.size - (intOf t).toNat)
  case atStart => exact ⟨0, by omega, rfl, right_zero _ _, HA⟩
  case round =>
    obtain ⟨i, hi, rfl, HRi, HI⟩ := hrel
    clear HA
    by_cases hin : i < s.size
    · have hfi := HF.out i hin
      by_cases hq : f i = q
      · have hq' : (f i == q) = true := by simp [hq]
        have HAi : Hid (A = (i : Int)) := by show _ = _; rw [← HI.out]; exact first_hit _ _ i hin (hit_yes HRi.out hin hq)
        clear hq HI
        go_wp2
        go_ret
        exact ⟨ret_int HAi.out.symm, rfl⟩
      have hq' : (f i == q) = false := beq_eq_false_iff_ne.2 hq
      have HI2 : Hid (first (hit f q) (s.size - (i + 1)) (i + 1) = A) := by show _ = _; rw [← HI.out]; exact (first_miss _ _ i hin (hit_no hq)).symm
      clear hq HI
      by_cases h92 : f i = 92
      · have e92 : (f i == 92) = true := by simp [h92]
        by_cases hin2 : i + 1 < s.size
        · have hfi2 := HF.out (i + 1) hin2
          obtain ⟨hg0, hg1⟩ := HG.out (i + 1)
          have hin2' : (i : Int) + 1 < (s.size : Int) := by omega
          cases hset : setB (f (i + 1)) with
          | true =>
            have HI3 : Hid (first (hit f q) (s.size - (i + 2)) (i + 2) = A) := by show _ = _; rw [← HI2.out]; exact (first_miss _ _ (i + 1) hin2 (hit_escaped HRi.out hin h92 hset)).symm
            have HR3 : Hid (right f s.size (i + 2)) := right_skip HRi.out hin h92
            clear h92 HI2
            go_wp2_with (go_at_call 12; refine (set_at _ hg0 hg1 _).mono ?_; rintro e w' ⟨x, rfl, hx, rfl⟩; have hxx := hx.out; rw [hset] at hxx; clear hx)
            go_round
            case rel => exact ⟨i + 2, by omega, by go_num, HR3, HI3⟩
            case measure => simp [intOf]; omega
          | false =>
            have HR3 : Hid (right f s.size (i + 1)) := right_stay (.inr hset)
            clear h92
            go_wp2_with (go_at_call 12; refine (set_at _ hg0 hg1 _).mono ?_; rintro e w' ⟨x, rfl, hx, rfl⟩; have hxx := hx.out; rw [hset] at hxx; clear hx)
            go_round
            case rel => exact ⟨i + 1, by omega, by go_num, HR3, HI2⟩
            case measure => simp [intOf]; omega
        · have HR3 : Hid (right f s.size (i + 1)) := right_stay (.inl (by omega))
          have hd : decide ((i : Int) + 1 < (s.size : Int)) = false := decide_eq_false (by omega)
          clear h92
          go_wp2
          go_round
          case rel => exact ⟨i + 1, by omega, by go_num, HR3, HI2⟩
          case measure => simp [intOf]; omega
      · have e92 : (f i == 92) = false := beq_eq_false_iff_ne.2 h92
        have HR3 : Hid (right f s.size (i + 1)) := right_plain f s.size i h92
        clear h92
        go_wp2
        go_round
        case rel => exact ⟨i + 1, by omega, by go_num, HR3, HI2⟩
        case measure => simp [intOf]; omega
    · have HAe : Hid (A = -1) := by show _ = _; rw [← HI.out]; exact first_end _ _ i (by omega)
      clear HI
      go_wp2
      go_ret
      exact ⟨ret_int HAe.out.symm, rfl⟩

end Go.Proofs.Qxb6608887aMods
