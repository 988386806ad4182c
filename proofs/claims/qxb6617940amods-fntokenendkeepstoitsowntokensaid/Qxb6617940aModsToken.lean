/-
  tokenEnd computes 'tok'.
-/
import Derived.Test.Qxb6617940aModsIndex
import Derived.BigQuiet
namespace Go.Proofs.Qxb6617940aMods
open Go.RowKit Plain

theorem add_at (g i t : Nat) : (⟨g, i, none⟩ : Addr).add t = ⟨g, i + t, none⟩ := by unfold Addr.add; split <;> simp_all
theorem ret_int {k : IntKind} {a b : Int} (h : a = b) : Ending.returned (.int k a) = .returned (.int k b) := by rw [h]
theorem bEnd_stop (f : Nat → Int) (n k : Nat) (hk : k < n) (h : endsB (f k) = true) : bEnd f (n - k) k = k := by
  rw [show n - k = (n - (k + 1)) + 1 by omega]; simp [bEnd, h]
theorem bEnd_go (f : Nat → Int) (n k : Nat) (hk : k < n) (h : endsB (f k) = false) : bEnd f (n - k) k = bEnd f (n - (k + 1)) (k + 1) := by
  rw [show n - k = (n - (k + 1)) + 1 by omega]; simp [bEnd, h]

/-- At the end of the text. -/
theorem token_end (a : Option Addr) (n c : Nat) (w : World) :
    Calls Trym.prog 15 #[.slice a n c, .int .i64 (n : Int)] w fun e w' => e = .returned (.int .i64 (n : Int)) ∧ w = w' := by
  go_enter Trym.func15, Trym.ntmps15
  go_wp2
  go_ret
  exact ⟨rfl, rfl⟩

/-- At a brace or bracket. -/
theorem token_delim (g n c start : Nat) (d : Int) (hn : n ≤ 2097152) (hst : start < n) (w : World) (hd : delimB d = true) (hc : w.cell? ⟨g, start, none⟩ = some (.int .u8 d)) :
    Calls Trym.prog 15 #[.slice (some ⟨g, 0, none⟩) n c, .int .i64 (start : Int)] w fun e w' => e = .returned (.int .i64 ((start : Int) + 1)) ∧ w = w' := by
  have hne : ((start : Int) == (n : Int)) = false := beq_eq_false_iff_ne.2 (by omega)
  have hlt : (start : Int) < (n : Int) := by omega
  have hd' : d = 123 ∨ d = 125 ∨ d = 91 ∨ d = 93 := by simpa [delimB, or_assoc] using hd
  clear hd
  rcases hd' with rfl | rfl | rfl | rfl
  all_goals
    go_enter Trym.func15, Trym.ntmps15
    go_wp2
    go_ret
    exact ⟨rfl, rfl⟩

set_option maxRecDepth 10000 in
set_option maxHeartbeats 1000000 in
/-- At a number or a literal. -/
theorem token_bare (f : Nat → Int) (hf : ∀ i, 0 ≤ f i ∧ f i ≤ 255) (g n c start : Nat) (hn : n ≤ 2097152) (hst : start < n) (w : World) (hd : delimB (f start) = false) (hq : ¬ f start = 34) (hc : ∀ i, i < n → w.cell? ⟨g, i, none⟩ = some (.int .u8 (f i))) :
    Calls Trym.prog 15 #[.slice (some ⟨g, 0, none⟩) n c, .int .i64 (start : Int)] w fun e w' => e = .returned (.int .i64 (bEnd f (n - start) start : Int)) ∧ w = w' := by
  have hne : ((start : Int) == (n : Int)) = false := beq_eq_false_iff_ne.2 (by omega)
  have hlt : (start : Int) < (n : Int) := by omega
  have hd' : ¬ f start = 123 ∧ ¬ f start = 125 ∧ ¬ f start = 91 ∧ ¬ f start = 93 := by simpa [delimB, and_assoc] using hd
  have h1 : (f start == 123) = false := beq_eq_false_iff_ne.2 hd'.1
  have h2 : (f start == 125) = false := beq_eq_false_iff_ne.2 hd'.2.1
  have h3 : (f start == 91) = false := beq_eq_false_iff_ne.2 hd'.2.2.1
  have h4 : (f start == 93) = false := beq_eq_false_iff_ne.2 hd'.2.2.2
  have h5 : (f start == 34) = false := beq_eq_false_iff_ne.2 hq
  have hc0 := hc start hst
  have HC : Hid (∀ i, i < n → w.cell? ⟨g, i, none⟩ = some (.int .u8 (f i))) := hc
  clear hc hd hd' hq
  obtain ⟨R, hR⟩ : ∃ R, R = bEnd f (n - start) start := ⟨_, rfl⟩
  rw [← hR]
  have HR : Hid (bEnd f (n - start) start = R) := hR.symm
  clear hR
  go_enter Trym.func15, Trym.ntmps15
  go_wp2
  go_loop [8] (fun t => ∃ k : Nat, start ≤ k ∧ k ≤ n ∧ t = .int .i64 k ∧ Hid (bEnd f (n - k) k = R)) (fun t => n - (intOf t).toNat)
  case atStart => exact ⟨start, by omega, by omega, rfl, HR⟩
  case round =>
    obtain ⟨k, hk1, hk2, rfl, HK⟩ := hrel
    clear HR
    by_cases hk : k < n
    · obtain ⟨hf0, hf1⟩ := hf k
      have hck := HC.out k hk
      have hlk : (k : Int) < (n : Int) := by omega
      cases hb : blankB (f k) with
      | true =>
        have hE : endsB (f k) = true := by rw [endsB_eq]; simp [hb]
        go_wp2_with (go_at_call 18; refine (isSpace_any _ _).mono ?_; rintro e w' ⟨rfl, rfl⟩)
        go_ret
        exact ⟨by rw [← HK.out, bEnd_stop f n k hk hE]; rfl, rfl⟩
      | false =>
        by_cases e1 : f k = 44
        · have hE : endsB (f k) = true := by rw [endsB_eq]; simp [e1]
          have e1' : (f k != 44) = false := by simp [e1]
          clear e1
          go_wp2_with (go_at_call 18; refine (isSpace_any _ _).mono ?_; rintro e w' ⟨rfl, rfl⟩)
          go_ret
          exact ⟨by rw [← HK.out, bEnd_stop f n k hk hE]; rfl, rfl⟩
        have e1' : (f k != 44) = true := bne_iff_ne.2 e1
        by_cases e2 : f k = 93
        · have hE : endsB (f k) = true := by rw [endsB_eq]; simp [e2]
          have e2' : (f k != 93) = false := by simp [e2]
          clear e1 e2
          go_wp2_with (go_at_call 18; refine (isSpace_any _ _).mono ?_; rintro e w' ⟨rfl, rfl⟩)
          go_ret
          exact ⟨by rw [← HK.out, bEnd_stop f n k hk hE]; rfl, rfl⟩
        have e2' : (f k != 93) = true := bne_iff_ne.2 e2
        by_cases e3 : f k = 125
        · have hE : endsB (f k) = true := by rw [endsB_eq]; simp [e3]
          have e3' : (f k != 125) = false := by simp [e3]
          clear e1 e2 e3
          go_wp2_with (go_at_call 18; refine (isSpace_any _ _).mono ?_; rintro e w' ⟨rfl, rfl⟩)
          go_ret
          exact ⟨by rw [← HK.out, bEnd_stop f n k hk hE]; rfl, rfl⟩
        have e3' : (f k != 125) = true := bne_iff_ne.2 e3
        have hE : endsB (f k) = false := by rw [endsB_eq]; simp [hb, e1, e2, e3]
        have HK1 : Hid (bEnd f (n - (k + 1)) (k + 1) = R) := by show _ = _; rw [← HK.out]; exact (bEnd_go f n k hk hE).symm
        clear e1 e2 e3 HK
        go_wp2_with (go_at_call 18; refine (isSpace_any _ _).mono ?_; rintro e w' ⟨rfl, rfl⟩)
        go_round
        case rel => exact ⟨k + 1, by omega, by omega, by go_num, HK1⟩
        case measure => simp [intOf]; omega
    · have hlk : decide ((k : Int) < (n : Int)) = false := decide_eq_false (by omega)
      go_wp2
      go_ret
      exact ⟨by rw [← HK.out, show n - k = 0 by omega]; rfl, rfl⟩

set_option maxRecDepth 10000 in
set_option maxHeartbeats 2000000 in
/-- At a string. -/
theorem token_str (f : Nat → Int) (hf : ∀ i, 0 ≤ f i ∧ f i ≤ 255) (g n c start : Nat) (hn : n ≤ 2097152) (hnc : n ≤ c) (hst : start < n) (w : World) (hq : f start = 34) (hc : ∀ i, i < n → w.cell? ⟨g, i, none⟩ = some (.int .u8 (f i))) :
    Calls Trym.prog 15 #[.slice (some ⟨g, 0, none⟩) n c, .int .i64 (start : Int)] w fun e w' => e = .returned (.int .i64 (sEnd f (n - (start + 1)) false (start + 1) : Int)) ∧ w = w' := by
  have hne : ((start : Int) == (n : Int)) = false := beq_eq_false_iff_ne.2 (by omega)
  have hlt : (start : Int) < (n : Int) := by omega
  have hc0 : w.cell? ⟨g, start, none⟩ = some (.int .u8 34) := by rw [hc start hst, hq]
  have HC : Hid (∀ i, i < n → w.cell? ⟨g, i, none⟩ = some (.int .u8 (f i))) := hc
  have HF : Hid (∀ i, 0 ≤ f i ∧ f i ≤ 255) := hf
  have HQ : Hid (f start = 34) := hq
  have hb0 : bsr f (start + 1) = 0 := bsr_no f start (by rw [hq]; decide)
  obtain ⟨R, hR⟩ : ∃ R, R = sEnd f (n - (start + 1)) false (start + 1) := ⟨_, rfl⟩
  rw [← hR]
  have HR : Hid (sEnd f (n - (start + 1)) (oddB (bsr f (start + 1))) (start + 1) = R) := by show _ = _; rw [hb0, hR]; rfl
  clear hR hc hq hb0 hf
  go_enter Trym.func15, Trym.ntmps15
  go_wp2
  go_loop [5] (fun t => ∃ i : Nat, start + 1 ≤ i ∧ i ≤ n ∧ t = .int .i64 i ∧ Hid (sEnd f (n - i) (oddB (bsr f i)) i = R)) (fun t => n - (intOf t).toNat)
  case atStart => exact ⟨start + 1, by omega, by omega, by go_num, HR⟩
  case round =>
    obtain ⟨i, hi1, hi2, rfl, HI⟩ := hrel
    clear HR hc0
    rcases first_quote f i (n - i) with hno | ⟨j, hj, hqj, hbefore⟩
    · have HN : Hid (∀ t, t < n - i → ¬ f (i + t) = 34) := hno
      clear hno
      have hi2' : (i : Int) ≤ (n : Int) := by omega
      by_cases hic : i = c
      · have hin : n = c := by omega
        subst hin
        subst hic
        go_wp2_with fail
        refine (index_none _ _ _ f HF.out i _ ?h1 ?h2).mono ?_
        case h1 => intro t ht; omega
        case h2 => intro t ht; omega
        rintro e w' ⟨rfl, rfl⟩
        go_wp2
        go_ret
        exact ⟨by rw [← HI.out, sEnd_none f i i (Nat.le_refl _) (fun t ht => by omega)]; rfl, rfl⟩
      · have hic' : i < c := by omega
        go_wp2_with fail
        refine (index_none _ _ _ f HF.out i _ ?g1 ?g2).mono ?_
        case g1 => intro t ht; rw [add_at]; exact HC.out (i + t) (by omega)
        case g2 => exact HN.out
        rintro e w' ⟨rfl, rfl⟩
        go_wp2
        go_ret
        exact ⟨by rw [← HI.out, sEnd_none f n i hi2 (fun t ht => HN.out t (by omega))]; rfl, rfl⟩
    · have HB : Hid (∀ t, t < j → ¬ f (i + t) = 34) := hbefore
      have HJ : Hid (f (i + j) = 34) := hqj
      have HI2 : Hid (sEnd f (n - (i + j)) (oddB (bsr f (i + j))) (i + j) = R) := by show _ = _; rw [← HI.out]; exact (sEnd_skip f n i j (by omega) hbefore).symm
      clear hbefore hqj HI
      have hij : i + j < n := by omega
      have hic' : i < c := by omega
      go_wp2_with fail
      refine (index_found _ _ _ f HF.out i j _ ?f1 ?f2 HJ.out HB.out).mono ?_
      case f1 => intro t ht; rw [add_at]; exact HC.out (i + t) (by omega)
      case f2 => exact hj
      rintro e w' ⟨rfl, rfl⟩
      go_wp2
      go_loop [7] (fun t => ∃ k : Nat, start ≤ k ∧ k + 1 ≤ i + j ∧ t = .int .i64 ((k : Int) + 1) ∧ Hid (bsr f (i + j) = (i + j - (k + 1)) + bsr f (k + 1))) (fun t => (intOf t).toNat)
      case atStart => exact ⟨i + j - 1, by omega, by omega, by go_num, by show _ = _; rw [show i + j - 1 + 1 = i + j by omega]; omega⟩
      case round =>
        obtain ⟨k, hk1, hk2, rfl, HK⟩ := hrel
        have hck := HC.out k (by omega)
        have hkn : (k : Int) < (n : Int) := by omega
        by_cases h92 : f k = 92
        · have e92 : (f k == 92) = true := by simp [h92]
          have hks : start + 1 ≤ k := by
            by_cases e : k = start
            · subst e; have := HQ.out; omega
            · omega
          have HK1 : Hid (bsr f (i + j) = (i + j - (k - 1 + 1)) + bsr f (k - 1 + 1)) := by
            show _ = _
            have e := bsr_yes f k h92
            rw [HK.out, e, show k - 1 + 1 = k by omega]
            omega
          clear h92 HK
          go_wp2
          go_round
          case rel => exact ⟨k - 1, by omega, by omega, by go_num, HK1⟩
          case measure => simp [intOf]
        · have e92 : (f k == 92) = false := beq_eq_false_iff_ne.2 h92
          have hbs : bsr f (i + j) = i + j - (k + 1) := by rw [HK.out, bsr_no f k h92]; omega
          have HBS : Hid (bsr f (i + j) = i + j - (k + 1)) := hbs
          clear h92 HK hbs
          by_cases hev : (i + j - (k + 1)) % 2 = 0
          · have hev' : ((i : Int) + (j : Int) - ((k : Int) + 1)) % 2 = 0 := by omega
            have HE : Hid (oddB (bsr f (i + j)) = false) := by show _ = _; rw [HBS.out]; simp [oddB]; omega
            clear hev
            go_wp2
            go_ret
            exact ⟨ret_int (by rw [← HI2.out, sEnd_found f n (i + j) hij HJ.out HE.out]; omega), rfl⟩
          · have hev' : ((i : Int) + (j : Int) - ((k : Int) + 1)) % 2 = 1 := by omega
            have HE : Hid (oddB (bsr f (i + j)) = true) := by show _ = _; rw [HBS.out]; simp [oddB]; omega
            have HI3 : Hid (sEnd f (n - (i + j + 1)) (oddB (bsr f (i + j + 1))) (i + j + 1) = R) := by
              show _ = _
              rw [← HI2.out]
              exact (sEnd_step f n (i + j) hij (fun h => by rw [HE.out] at h; exact absurd h.2 (by decide))).symm
            clear hev
            go_wp2
            go_round
            case rel => exact ⟨i + j + 1, by omega, by omega, by go_num, HI3⟩
            case measure => simp [intOf]; omega

end Go.Proofs.Qxb6617940aMods
