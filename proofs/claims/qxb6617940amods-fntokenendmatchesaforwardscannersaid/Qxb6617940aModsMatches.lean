/-
  The walk of FnTokenEndMatchesAForwardScanner.
-/
import Derived.Test.Qxb6617940aModsShare
namespace Go.Proofs.Qxb6617940aMods
open Go.RowKit Plain

/-- The text too long, or the start outside it: true at once. -/
theorem matches_long (a0 : Option Addr) (len0 cap0 : Nat) (a1 : Int) (w : World) (h : 1048576 < len0) :
    Calls Trym.prog 3 #[.slice a0 len0 cap0, .int .i64 a1] w fun e w' => e = .returned (.bool true) ∧ Below w.heap.size w w' := by
  go_enter Trym.func3, Trym.ntmps3
  go_wp2_with (go_at_call 7; refine (bytesM_no _ _ _ _ h _).mono ?_; rintro e w' ⟨rfl, rfl⟩)
  go_ret
  exact ⟨rfl, Below.refl _ _⟩

theorem matches_out (a0 : Option Addr) (len0 cap0 : Nat) (a1 : Int) (w : World) (h : len0 ≤ 1048576) (hs : a1 < 0 ∨ (len0 : Int) < a1) :
    Calls Trym.prog 3 #[.slice a0 len0 cap0, .int .i64 a1] w fun e w' => e = .returned (.bool true) ∧ Below w.heap.size w w' := by
  rcases hs with hs | hs
  · have hd : decide (a1 < 0) = true := decide_eq_true hs
    go_enter Trym.func3, Trym.ntmps3
    go_wp2_with (go_at_call 7; refine (bytesM_yes _ _ _ _ h _).mono ?_; rintro e w' ⟨rfl, rfl⟩)
    go_ret
    exact ⟨rfl, Below.refl _ _⟩
  · have hd : decide (a1 < 0) = false := decide_eq_false (by omega)
    have hd2 : decide ((len0 : Int) < a1) = true := decide_eq_true hs
    go_enter Trym.func3, Trym.ntmps3
    go_wp2_with (go_at_call 7; refine (bytesM_yes _ _ _ _ h _).mono ?_; rintro e w' ⟨rfl, rfl⟩)
    go_ret
    exact ⟨rfl, Below.refl _ _⟩

set_option maxRecDepth 10000 in
/-- A nil text. -/
theorem matches_nil (w : World) :
    Calls Trym.prog 3 #[.slice none 0 0, .int .i64 0] w fun e w' => e = .returned (.bool true) ∧ Below w.heap.size w w' := by
  have hnil := fun W => run_neq_slice_nil_any (P := Trym.prog) W 22 5 none 0 0 0 0 Trym.underlying22
  go_enter Trym.func3, Trym.ntmps3
  go_wp2_with (first
    | (go_at_call 7; refine (bytesM_yes _ _ _ _ (by omega) _).mono ?_; rintro e w' ⟨rfl, rfl⟩)
    | (go_at_call 8; refine (zz_nil _).mono ?_; rintro e w' ⟨rfl, rfl⟩))
  go_ret
  exact ⟨rfl, Below.refl _ _⟩

theorem sEnd_esc (f : Nat → Int) (n i : Nat) (hi : i < n) : sEnd f (n - i) true i = sEnd f (n - (i + 1)) false (i + 1) := by
  rw [show n - i = (n - (i + 1)) + 1 by omega]; simp [sEnd]
theorem sEnd_back (f : Nat → Int) (n i : Nat) (hi : i < n) (h : f i = 92) : sEnd f (n - i) false i = sEnd f (n - (i + 1)) true (i + 1) := by
  rw [show n - i = (n - (i + 1)) + 1 by omega]; simp [sEnd, h]
theorem sEnd_quote (f : Nat → Int) (n i : Nat) (hi : i < n) (h : f i = 34) : sEnd f (n - i) false i = i + 1 := by
  rw [show n - i = (n - (i + 1)) + 1 by omega]; simp [sEnd, h]
theorem sEnd_plain (f : Nat → Int) (n i : Nat) (hi : i < n) (h : ¬ f i = 92) (h2 : ¬ f i = 34) : sEnd f (n - i) false i = sEnd f (n - (i + 1)) false (i + 1) := by
  rw [show n - i = (n - (i + 1)) + 1 by omega]; simp [sEnd, h, h2]

set_option maxRecDepth 10000 in
set_option maxHeartbeats 4000000 in
theorem matches_main (w : World) (x : Addr) (n c0 st : Nat) (z : List Int) (hz : z.length = c0) (hnc : n ≤ c0) (hcell : ∀ i, i < z.length → w.cell? (x.add i) = some (.int .u8 (z.getD i 0))) (hwf : ∀ n ∈ z, (Lit.int .u8 n).wf = true)
    (hlen : n ≤ 1048576) (hst : st ≤ n) :
    Calls Trym.prog 3 #[.slice (some x) n c0, .int .i64 (st : Int)] w fun e w' => e = .returned (.bool true) ∧ Below w.heap.size w w' := by
  obtain ⟨i0, hi, hz0, hz1, hz2⟩ := info_parts Trym.info5
  have hnil := fun W => run_neq_slice_nil_any (P := Trym.prog) W 22 5 (some x) n c0 0 0 Trym.underlying22
  obtain ⟨f, hfd⟩ : ∃ f : Nat → Int, f = fun i => (z.take n).getD i 0 := ⟨_, rfl⟩
  have hf : ∀ i, 0 ≤ f i ∧ f i ≤ 255 := by rw [hfd]; exact bytes_range _ (fun m hm => hwf m (List.mem_of_mem_take hm))
  obtain ⟨R, hR⟩ : ∃ R, R = tok f n st := ⟨_, rfl⟩
  have hb := tok_bounds f n st hst
  rw [← hR] at hb
  obtain ⟨hb1, hb2⟩ := hb
  have hb1' : (st : Int) ≤ (R : Int) := by omega
  have hb2' : (R : Int) ≤ (n : Int) := by omega
  have hst' : (st : Int) ≤ (n : Int) := by omega
  have hst0 : (0 : Int) ≤ (st : Int) := by omega
  have HF : Hid (∀ i, 0 ≤ f i ∧ f i ≤ 255) := hf
  have HFD : Hid (f = fun i => (z.take n).getD i 0) := hfd
  have HR : Hid (R = tok f n st) := hR
  have HX : Hid (∀ i, i < z.length → w.cell? (x.add i) = some (.int .u8 (z.getD i 0))) := hcell
  have HZ : Hid (z.length = c0) := hz
  clear hf hfd hR hcell hwf hz
  obtain ⟨c, hc⟩ : ∃ c, c = f st := ⟨_, rfl⟩
  have HCS : Hid (c = f st) := hc
  clear hc
  go_enter Trym.func3, Trym.ntmps3
  go_wp2_with (first
    | (go_at_call 7; refine (bytesM_yes _ _ _ _ hlen _).mono ?_; rintro e w' ⟨rfl, rfl⟩)
    | (at_make; refine wpList_make_full _ rfl _ _ 22 rfl w.heap.size 5 i0 (.int .u8 0) 1 Trym.underlying22 hi hz0 hz1 _ _ _ _ n rfl rfl rfl rfl ?b1 ?b2 ?b3 ?_))
  case b1 => rw [hz2]; omega
  case b2 => unfold maxLen; omega
  case b3 => exact Nat.le_refl _
  intro w1 hown0 hgrow0
  have hbel1 : Below w.heap.size w w1 := (Below.refl _ _).grown hgrow0 (Nat.le_refl _) (by simp)
  obtain ⟨w2, hr, hbel2, hown2⟩ := copy_src w w1 x n c0 z (by have := HZ.out; omega) HX.out (by omega) (by simpa using hown0) hbel1
  have HCP : Hid ((Builtin.copy_ #[22, 22] 3 #[.slice (some ⟨w.heap.size, 0, none⟩) n n, .slice (some x) n c0]).run Trym.prog w1 = .ok (goInt n) w2) := hr
  clear hr hown0 hgrow0 hbel1 hnil
  have hcl := own_cells hown2
  have HC : Hid (∀ i, i < n → w2.cell? ⟨w.heap.size, i, none⟩ = some (.int .u8 (f i))) := by rw [HFD.out]; exact hcl
  have HO : Hid (w2.ownsRow w.heap.size 5 1 (.slice (some ⟨w.heap.size, 0, none⟩) n n) n (icells (z.take n))) := hown2
  clear hcl hown2
  go_wp2_with (refine Lib.wpList_copy_run _ rfl (.tmp 31) (.tmp 32) 22 22 rfl _ _ rfl rfl HCP.out ?_)
  have hz1 := zz_any f HF.out w.heap.size n n st (by omega) (Nat.le_refl _) hst w2 HC.out
  rw [← HR.out] at hz1
  refine hz1.mono ?_
  clear hz1 HCP
  rintro e w' ⟨rfl, rfl⟩
  clear HO HX HZ HF HFD
  by_cases hend : st = n
  · have hRs : R = st := by rw [HR.out]; exact tok_end f n st hend
    have he : ((st : Int) == (n : Int)) = true := by simp [hend]
    have he2 : ((R : Int) == (st : Int)) = true := by simp [hRs]
    clear hend hRs
    go_wp2
    go_ret
    exact ⟨rfl, hbel2⟩
  have hlt : st < n := by omega
  have hlt' : (st : Int) < (n : Int) := by omega
  have he : ((st : Int) == (n : Int)) = false := beq_eq_false_iff_ne.2 (by omega)
  have hc0 : w2.cell? ⟨w.heap.size, st, none⟩ = some (.int .u8 c) := by rw [HCS.out]; exact HC.out st hlt
  clear hend
  by_cases hd : delimB c = true
  · have hRs : R = st + 1 := by rw [HR.out]; exact tok_delim f n st hlt (by rw [← HCS.out]; exact hd)
    have he2 : ((R : Int) == (st : Int) + 1) = true := by simp [hRs]
    have hd' : c = 123 ∨ c = 125 ∨ c = 91 ∨ c = 93 := by simpa [delimB, or_assoc] using hd
    clear hRs hd HCS
    rcases hd' with rfl | rfl | rfl | rfl
    all_goals
      go_wp2
      go_ret
      exact ⟨rfl, hbel2⟩
  have hd' : ¬ c = 123 ∧ ¬ c = 125 ∧ ¬ c = 91 ∧ ¬ c = 93 := by simpa [delimB, and_assoc] using hd
  have e1 : (c == 123) = false := beq_eq_false_iff_ne.2 hd'.1
  have e2 : (c == 125) = false := beq_eq_false_iff_ne.2 hd'.2.1
  have e3 : (c == 91) = false := beq_eq_false_iff_ne.2 hd'.2.2.1
  have e4 : (c == 93) = false := beq_eq_false_iff_ne.2 hd'.2.2.2
  by_cases hq : c = 34
  · have HS : Hid (sEnd f (n - (st + 1)) false (st + 1) = R) := by show _ = _; rw [HR.out]; exact (tok_str f n st hlt (by rw [← HCS.out]; exact hq)).symm
    have e5 : (c == 34) = true := by simp [hq]
    clear hq hd hd'
    go_wp2
    go_loop [8, 9] (fun b t => ∃ (i : Nat) (esc : Bool), st + 1 ≤ i ∧ i ≤ n ∧ b = .bool esc ∧ t = .int .i64 i ∧ Hid (sEnd f (n - i) esc i = R)) (fun _ t => n - (intOf t).toNat)
    case atStart => exact ⟨st + 1, false, by omega, by omega, rfl, by go_num, HS⟩
    case round =>
      obtain ⟨i, esc, hi1, hi2, rfl, rfl, HI⟩ := hrel
      clear HS hc0 HR
      by_cases hin : i < n
      · have hci := HC.out i hin
        have hin' : (i : Int) < (n : Int) := by omega
        cases esc with
        | true =>
          have HI2 : Hid (sEnd f (n - (i + 1)) false (i + 1) = R) := by show _ = _; rw [← HI.out]; exact (sEnd_esc f n i hin).symm
          clear HI
          go_wp2
          go_round
          case rel => exact ⟨i + 1, false, by omega, by omega, rfl, by go_num, HI2⟩
          case measure => simp [intOf]; omega
        | false =>
          by_cases g1 : f i = 92
          · have g1' : (f i == 92) = true := by simp [g1]
            have HI2 : Hid (sEnd f (n - (i + 1)) true (i + 1) = R) := by show _ = _; rw [← HI.out]; exact (sEnd_back f n i hin g1).symm
            clear HI g1
            go_wp2
            go_round
            case rel => exact ⟨i + 1, true, by omega, by omega, rfl, by go_num, HI2⟩
            case measure => simp [intOf]; omega
          have g1' : (f i == 92) = false := beq_eq_false_iff_ne.2 g1
          by_cases g2 : f i = 34
          · have g2' : (f i == 34) = true := by simp [g2]
            have hRi : R = i + 1 := by rw [← HI.out]; exact sEnd_quote f n i hin g2
            have g3 : ((R : Int) == (i : Int) + 1) = true := by simp [hRi]
            clear HI g1 g2 hRi
            go_wp2
            go_ret
            exact ⟨rfl, hbel2⟩
          · have g2' : (f i == 34) = false := beq_eq_false_iff_ne.2 g2
            have HI2 : Hid (sEnd f (n - (i + 1)) false (i + 1) = R) := by show _ = _; rw [← HI.out]; exact (sEnd_plain f n i hin g1 g2).symm
            clear HI g1 g2
            go_wp2
            go_round
            case rel => exact ⟨i + 1, false, by omega, by omega, rfl, by go_num, HI2⟩
            case measure => simp [intOf]; omega
      · have hRn : R = n := by rw [← HI.out, show n - i = 0 by omega]; show i = n; omega
        have g3 : ((R : Int) == (n : Int)) = true := by simp [hRn]
        clear hRn HI
        go_wp2
        go_ret
        exact ⟨rfl, hbel2⟩
  · have e5 : (c == 34) = false := beq_eq_false_iff_ne.2 hq
    have hRb : R = bEnd f (n - st) st := by rw [HR.out]; exact tok_bare f n st hlt (by rw [← HCS.out]; simpa using hd) (by rw [← HCS.out]; exact hq)
    have HB : Hid (∀ k, st ≤ k → k < R → endsB (f k) = false) := by rw [hRb]; exact bEnd_before f (n - st) st
    have HE : Hid (R = n ∨ endsB (f R) = true) := by
      show _ ∨ _
      rcases bEnd_at f (n - st) st with h | h
      · left; omega
      · right; rw [hRb]; exact h
    clear hq hd hd' hRb HR
    have l1 : decide ((R : Int) < (st : Int)) = false := decide_eq_false (by omega)
    have l2 : decide ((n : Int) < (R : Int)) = false := decide_eq_false (by omega)
    have l3 : decide (R < st) = false := decide_eq_false (by omega)
    have l4 : decide (n < R) = false := decide_eq_false (by omega)
    go_wp2
    go_loop [10] (fun t => ∃ k : Nat, st ≤ k ∧ k ≤ R ∧ t = .int .i64 k) (fun t => R - (intOf t).toNat)
    case atStart => exact ⟨st, by omega, by omega, rfl⟩
    case round =>
      obtain ⟨k, hk1, hk2, rfl⟩ := hrel
      by_cases hkR : k < R
      · have hck := HC.out k (by omega)
        have hkn : (k : Int) < (n : Int) := by omega
        have hke := HB.out k hk1 hkR
        go_wp2_with (go_at_call 9; refine (ends_any _ _).mono ?_; rintro e w' ⟨rfl, rfl⟩)
        go_round
        case rel => exact ⟨k + 1, by omega, by omega, by go_num⟩
        case measure => simp [intOf]; omega
      · by_cases hRn : R = n
        · have g3 : ((R : Int) == (n : Int)) = true := by simp [hRn]
          clear hRn
          go_wp2_with (go_at_call 9; refine (ends_any _ _).mono ?_; rintro e w' ⟨rfl, rfl⟩)
          go_ret
          exact ⟨rfl, hbel2⟩
        · have g3 : ((R : Int) == (n : Int)) = false := beq_eq_false_iff_ne.2 (by omega)
          have hcR := HC.out R (by omega)
          have hRn' : (R : Int) < (n : Int) := by omega
          have hRe : endsB (f R) = true := by
            rcases HE.out with h | h
            · exact absurd h hRn
            · exact h
          clear hRn
          go_wp2_with (go_at_call 9; refine (ends_any _ _).mono ?_; rintro e w' ⟨rfl, rfl⟩)
          go_ret
          exact ⟨rfl, hbel2⟩

end Go.Proofs.Qxb6617940aMods
