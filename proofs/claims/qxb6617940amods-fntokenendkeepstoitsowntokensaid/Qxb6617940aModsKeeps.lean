/-
  The walk of FnTokenEndKeepsToItsOwnToken.
-/
import Derived.Test.Qxb6617940aModsShare
namespace Go.Proofs.Qxb6617940aMods
open Go.RowKit Plain

/-- The text too long, or the start outside it: true at once. -/
theorem keeps_long (a0 : Option Addr) (len0 cap0 : Nat) (a1 : Int) (a2 : Option Addr) (len2 cap2 : Nat) (w : World) (h : 1048576 < len0 + len2) :
    Calls Trym.prog 4 #[.slice a0 len0 cap0, .int .i64 a1, .slice a2 len2 cap2] w fun e w' => e = .returned (.bool true) ∧ Below w.heap.size w w' := by
  go_enter Trym.func4, Trym.ntmps4
  go_wp2_with (go_at_call 10; refine (bytesK_no _ _ _ _ _ _ _ h _).mono ?_; rintro e w' ⟨rfl, rfl⟩)
  go_ret
  exact ⟨rfl, Below.refl _ _⟩

theorem keeps_out (a0 : Option Addr) (len0 cap0 : Nat) (a1 : Int) (a2 : Option Addr) (len2 cap2 : Nat) (w : World) (h : len0 + len2 ≤ 1048576) (hs : a1 < 0 ∨ (len0 : Int) < a1) :
    Calls Trym.prog 4 #[.slice a0 len0 cap0, .int .i64 a1, .slice a2 len2 cap2] w fun e w' => e = .returned (.bool true) ∧ Below w.heap.size w w' := by
  rcases hs with hs | hs
  · have hd : decide (a1 < 0) = true := decide_eq_true hs
    go_enter Trym.func4, Trym.ntmps4
    go_wp2_with (go_at_call 10; refine (bytesK_yes _ _ _ _ _ _ _ h _).mono ?_; rintro e w' ⟨rfl, rfl⟩)
    go_ret
    exact ⟨rfl, Below.refl _ _⟩
  · have hd : decide (a1 < 0) = false := decide_eq_false (by omega)
    have hd2 : decide ((len0 : Int) < a1) = true := decide_eq_true hs
    go_enter Trym.func4, Trym.ntmps4
    go_wp2_with (go_at_call 10; refine (bytesK_yes _ _ _ _ _ _ _ h _).mono ?_; rintro e w' ⟨rfl, rfl⟩)
    go_ret
    exact ⟨rfl, Below.refl _ _⟩

/-- A nil text. -/
theorem keeps_nil (a2 : Option Addr) (len2 cap2 : Nat) (w : World) (h : len2 ≤ 1048576) :
    Calls Trym.prog 4 #[.slice none 0 0, .int .i64 0, .slice a2 len2 cap2] w fun e w' => e = .returned (.bool true) ∧ Below w.heap.size w w' := by
  have hnil := fun W => run_neq_slice_nil_any (P := Trym.prog) W 22 5 none 0 0 0 0 Trym.underlying22
  go_enter Trym.func4, Trym.ntmps4
  go_wp2_with (first
    | (go_at_call 10; refine (bytesK_yes _ _ _ _ _ _ _ (by omega) _).mono ?_; rintro e w' ⟨rfl, rfl⟩)
    | (go_at_call 8; refine (zz_nil _).mono ?_; rintro e w' ⟨rfl, rfl⟩))
  go_ret
  exact ⟨rfl, Below.refl _ _⟩

/-- Where the new text is made: what the law's own copy still holds there. -/
theorem join_one {w w2 w3 : World} {n : Nat} {z : List Int} {f : Nat → Int} (hc : ∀ i, i < n → w2.cell? ⟨w.heap.size, i, none⟩ = some (.int .u8 (f i))) (hfd : f = fun i => (z.take n).getD i 0)
    (hown : w2.ownsRow w.heap.size 5 1 (.slice (some ⟨w.heap.size, 0, none⟩) n n) n (icells (z.take n))) (hg : w2.grownBy w3 none) :
    (icells (z.take n)).length = n ∧ (∀ ad, some (⟨w.heap.size, 0, none⟩ : Addr) = some ad → ∀ j u, (icells (z.take n))[j]? = some u → w3.cell? (ad.add j) = some u) ∧ Below w2.heap.size w2 w3 := by
  have hl : (icells (z.take n)).length = n := by have := hown.1; omega
  refine ⟨hl, ?_, (Below.refl _ _).grown hg (Nat.le_refl _) (by simp)⟩
  intro ad had j u hu
  obtain rfl := Option.some.inj had
  have hj : j < (icells (z.take n)).length := (List.getElem?_eq_some_iff.1 hu).1
  rw [icells_at _ j (by rw [icells_length] at hj; exact hj)] at hu
  obtain rfl := Option.some.inj hu
  rw [add_at, Nat.zero_add]
  have h := hc j (by omega)
  rw [hfd] at h
  exact hg.cell h (by simp)

theorem join_two {w w2 w3 w4 : World} {a2 : Option Addr} {len2 : Nat} {z2 : List Int} (hb3 : Below w2.heap.size w2 w3) (hbel2 : Below w.heap.size w w2) (hg : w3.grownBy w4 (some w2.heap.size))
    (hc : ∀ ad, a2 = some ad → ∀ i, i < z2.length → w.cell? (ad.add i) = some (.int .u8 (z2.getD i 0))) (h2l : len2 ≤ z2.length) :
    (icells (z2.take len2)).length = len2 ∧ (∀ ad, a2 = some ad → ∀ j u, (icells (z2.take len2))[j]? = some u → w4.cell? (ad.add j) = some u) ∧ Below w2.heap.size w2 w4 := by
  have hb4 : Below w2.heap.size w2 w4 := hb3.grown hg hb3.size (by intro k hk; simp at hk; omega)
  have hl : (icells (z2.take len2)).length = len2 := by rw [icells_length]; simp; omega
  refine ⟨hl, ?_, hb4⟩
  intro ad had j u hu
  have hj : j < (icells (z2.take len2)).length := (List.getElem?_eq_some_iff.1 hu).1
  rw [icells_at _ j (by rw [icells_length] at hj; exact hj)] at hu
  obtain rfl := Option.some.inj hu
  have h := hc ad had j (by omega)
  have hb := World.block_lt_of_cell? w _ h
  have hw : Below w.heap.size w w4 := hbel2.trans (hb4.mono hbel2.size)
  rw [hw.cell hb, h]
  have e : (z2.take len2).getD j 0 = z2.getD j 0 := by simp [List.getD, show j < len2 by omega]
  rw [e]

theorem join_three {w w2 w4 w5 : World} (hb4 : Below w2.heap.size w2 w4) (hbel2 : Below w.heap.size w w2) (hg : w4.grownBy w5 (some w2.heap.size)) : Below w.heap.size w w5 :=
  hbel2.trans ((hb4.grown hg hb4.size (by intro k hk; simp at hk; omega)).mono hbel2.size)

/-- tokenEnd on the text with the tail behind it. -/
theorem join_zz {w5 : World} {base g n len2 st : Nat} {z z2 : List Int} {f : Nat → Int} (hfd : f = fun i => (z.take n).getD i 0) (hz : n ≤ z.length) (hlen : n + len2 ≤ 1048576)
    (hwf : ∀ n ∈ z, (Lit.int .u8 n).wf = true) (hwf2 : ∀ n ∈ z2, (Lit.int .u8 n).wf = true) (hst : st ≤ n) (hR : tok f n st < n)
    (hown : w5.ownsRow base 5 1 (.slice (some ⟨g, 0, none⟩) (n + len2) (n + len2)) (n + len2) (icells (z.take n) ++ icells (z2.take len2))) :
    Calls Trym.prog 8 #[.slice (some ⟨g, 0, none⟩) (n + len2) (n + len2), .int .i64 (st : Int)] w5 fun e w' => e = .returned (.int .i64 (tok f n st : Int)) ∧ w5 = w' := by
  have e : icells (z.take n) ++ icells (z2.take len2) = icells (z.take n ++ z2.take len2) := by simp [icells]
  rw [e] at hown
  have h := zz_any (fun i => (z.take n ++ z2.take len2).getD i 0) (bytes_range _ (fun m hm => by
    rcases List.mem_append.1 hm with h | h
    · exact hwf m (List.mem_of_mem_take h)
    · exact hwf2 m (List.mem_of_mem_take h))) g (n + len2) (n + len2) st (by omega) (Nat.le_refl _) (by omega) w5 (own_cells hown)
  rw [tok_more f n st (fun i => (z.take n ++ z2.take len2).getD i 0) (n + len2) (fun k hk => by
    rw [hfd]
    simp [List.getD, List.getElem?_append, show k < min n z.length by omega]) (by omega) hst hR] at h
  exact h

set_option maxRecDepth 10000 in
set_option maxHeartbeats 4000000 in
theorem keeps_main (w : World) (x : Addr) (n c0 st : Nat) (z : List Int) (hz : z.length = c0) (hnc : n ≤ c0) (hcell : ∀ i, i < z.length → w.cell? (x.add i) = some (.int .u8 (z.getD i 0))) (hwf : ∀ n ∈ z, (Lit.int .u8 n).wf = true)
    (a2 : Option Addr) (len2 cap2 : Nat) (z2 : List Int) (h2n : a2 = none → len2 = 0 ∧ cap2 = 0) (h2l : len2 ≤ z2.length) (h2c : ∀ ad, a2 = some ad → ∀ i, i < z2.length → w.cell? (ad.add i) = some (.int .u8 (z2.getD i 0))) (hwf2 : ∀ n ∈ z2, (Lit.int .u8 n).wf = true)
    (hlen : n + len2 ≤ 1048576) (hst : st ≤ n) :
    Calls Trym.prog 4 #[.slice (some x) n c0, .int .i64 (st : Int), .slice a2 len2 cap2] w fun e w' => e = .returned (.bool true) ∧ Below w.heap.size w w' := by
  obtain ⟨i0, hi, hz0, hz1, hz2⟩ := info_parts Trym.info5
  have hnil := fun W => run_neq_slice_nil_any (P := Trym.prog) W 22 5 (some x) n c0 0 0 Trym.underlying22
  obtain ⟨f, hfd⟩ : ∃ f : Nat → Int, f = fun i => (z.take n).getD i 0 := ⟨_, rfl⟩
  have hf : ∀ i, 0 ≤ f i ∧ f i ≤ 255 := by rw [hfd]; exact bytes_range _ (fun m hm => hwf m (List.mem_of_mem_take hm))
  obtain ⟨R, hR⟩ : ∃ R, R = tok f n st := ⟨_, rfl⟩
  have hb := tok_bounds f n st hst
  rw [← hR] at hb
  obtain ⟨hb1, hb2⟩ := hb
  have hb1' : (st : Int) ≤ (R : Int) := by omega
  have hb2' : (R : Int) ≤ (n : Int) := by omega
  have hst' : (st : Int) ≤ (n : Int) := by omega
  have hst0 : (0 : Int) ≤ (st : Int) := by omega
  have HF : Hid (∀ i, 0 ≤ f i ∧ f i ≤ 255) := hf
  have HFD : Hid (f = fun i => (z.take n).getD i 0) := hfd
  have HR : Hid (R = tok f n st) := hR
  have HX : Hid (∀ i, i < z.length → w.cell? (x.add i) = some (.int .u8 (z.getD i 0))) := hcell
  have HY : Hid (∀ ad, a2 = some ad → ∀ i, i < z2.length → w.cell? (ad.add i) = some (.int .u8 (z2.getD i 0))) := h2c
  have HY0 : Hid (a2 = none → len2 = 0 ∧ cap2 = 0) := h2n
  have HW2 : Hid (∀ n ∈ z2, (Lit.int .u8 n).wf = true) := hwf2
  have HZ : Hid (z.length = c0) := hz
  have HWF : Hid (∀ n ∈ z, (Lit.int .u8 n).wf = true) := hwf
  clear hf hfd hR hcell h2c h2n hwf2 hwf hz
  obtain ⟨c, hc⟩ : ∃ c, c = f st := ⟨_, rfl⟩
  have HCS : Hid (c = f st) := hc
  clear hc
  go_enter Trym.func4, Trym.ntmps4
  go_wp2_with (first
    | (go_at_call 10; refine (bytesK_yes _ _ _ _ _ _ _ hlen _).mono ?_; rintro e w' ⟨rfl, rfl⟩)
    | (at_make; refine wpList_make_full _ rfl _ _ 22 rfl w.heap.size 5 i0 (.int .u8 0) 1 Trym.underlying22 hi hz0 hz1 _ _ _ _ n rfl rfl rfl rfl ?b1 ?b2 ?b3 ?_))
  case b1 => rw [hz2]; omega
  case b2 => unfold maxLen; omega
  case b3 => exact Nat.le_refl _
  intro w1 hown0 hgrow0
  have hbel1 : Below w.heap.size w w1 := (Below.refl _ _).grown hgrow0 (Nat.le_refl _) (by simp)
  obtain ⟨w2, hr, hbel2, hown2⟩ := copy_src w w1 x n c0 z (by have := HZ.out; omega) HX.out (by omega) (by simpa using hown0) hbel1
  have HCP : Hid ((Builtin.copy_ #[22, 22] 3 #[.slice (some ⟨w.heap.size, 0, none⟩) n n, .slice (some x) n c0]).run Trym.prog w1 = .ok (goInt n) w2) := hr
  clear hr hown0 hgrow0 hbel1 hnil
  have hcl := own_cells hown2
  have HC : Hid (∀ i, i < n → w2.cell? ⟨w.heap.size, i, none⟩ = some (.int .u8 (f i))) := by rw [HFD.out]; exact hcl
  have HO : Hid (w2.ownsRow w.heap.size 5 1 (.slice (some ⟨w.heap.size, 0, none⟩) n n) n (icells (z.take n))) := hown2
  clear hcl hown2
  go_wp2_with (refine Lib.wpList_copy_run _ rfl (.tmp 37) (.tmp 38) 22 22 rfl _ _ rfl rfl HCP.out ?_)
  have hz1 := zz_any f HF.out w.heap.size n n st (by omega) (Nat.le_refl _) hst w2 HC.out
  rw [← HR.out] at hz1
  refine hz1.mono ?_
  clear hz1 HCP
  rintro e w' ⟨rfl, rfl⟩
  have hz2c := zz_any f HF.out w.heap.size R n st (by omega) (by omega) hb1 w2 (fun i hi => HC.out i (by omega))
  rw [HR.out, tok_cut f n st hst, ← HR.out] at hz2c
  have HZ2 : Hid (Calls Trym.prog 8 #[.slice (some ⟨w.heap.size, 0, none⟩) R n, .int .i64 (st : Int)] w2 fun e w' => e = .returned (.int .i64 (R : Int)) ∧ w2 = w') := hz2c
  clear hz2c
  have hcell0 : st < n → w2.cell? ⟨w.heap.size, st, none⟩ = some (.int .u8 c) := fun h => by rw [HCS.out]; exact HC.out st h
  have hcases : st = n ∨ (st < n ∧ blankB c = true) ∨ (st < n ∧ blankB c = false ∧ c = 44) ∨ (st < n ∧ blankB c = false ∧ ¬ c = 44 ∧ st < R) := by
    by_cases h1 : st = n
    · exact .inl h1
    have hlt : st < n := by omega
    by_cases h2 : blankB c = true
    · exact .inr (.inl ⟨hlt, h2⟩)
    have h2' : blankB c = false := by simpa using h2
    by_cases h3 : c = 44
    · exact .inr (.inr (.inl ⟨hlt, h2', h3⟩))
    · refine .inr (.inr (.inr ⟨hlt, h2', h3, ?_⟩))
      rw [HR.out]
      exact tok_past f n st hlt (by rw [← HCS.out]; exact h2') (by rw [← HCS.out]; exact h3)
  rcases hcases with h1 | ⟨h1, h2⟩ | ⟨h1, h2, h3⟩ | ⟨h1, h2, h3, h4⟩
  · have hd : decide ((st : Int) < (n : Int)) = false := decide_eq_false (by omega)
    have hd2 : decide (st < n) = false := decide_eq_false (by omega)
    clear h1 hcell0
    go_wp2_with (go_at_call 11; refine (blank_any _ _).mono ?_; rintro e w' ⟨rfl, rfl⟩)
    refine HZ2.out.mono ?_
    clear HZ2
    rintro e w' ⟨rfl, rfl⟩
    by_cases hRn : R < n
    · go_wp2_with (at_make; refine wpList_make_own _ rfl _ _ 22 rfl w.heap.size 5 i0 (.int .u8 0) 1 Trym.underlying22 hi hz0 hz1 _ _ _ (n + len2) rfl rfl (by omega) ?b1 ?b2 ?b3 ?_)
      case b1 => rw [hz2]; omega
      case b2 => unfold maxLen; omega
      case b3 => exact hbel2.size
      intro w3 hown3 hgrow3
      have J := join_one (w := w) HC.out HFD.out HO.out hgrow3
      clear hgrow3
      go_wp2_with (at_builtin; refine wpList_append_fits_any _ rfl (.tmp 94) (.tmp 95) 22 rfl w.heap.size 5 i0 1 Trym.underlying22 hi hz1 w2.heap.size 0 (n + len2) [] rfl hown3 _ n n (icells (z.take n)) rfl (by rw [J.1]; omega) (by simp) J.2.1 (ints_oneCell .u8 _) (by omega) ?_)
      intro w4 hown4 hgrow4
      have J4 := join_two (w := w) J.2.2 hbel2 hgrow4 HY.out h2l
      clear hgrow4 hown3 J
      go_wp2_with (at_builtin; refine wpList_append_fits_any _ rfl (.tmp 97) (.tmp 98) 22 rfl w.heap.size 5 i0 1 Trym.underlying22 hi hz1 w2.heap.size n (n + len2) (icells (z.take n)) rfl hown4 _ len2 cap2 (icells (z2.take len2)) rfl (by rw [J4.1]; omega) HY0.out J4.2.1 (ints_oneCell .u8 _) (by omega) ?_)
      intro w5 hown5 hgrow5
      have J5 := join_three (w := w) J4.2.2 hbel2 hgrow5
      clear hgrow5 hown4 J4
      have J6 := join_zz (st := st) HFD.out (by have := HZ.out; omega) hlen HWF.out HW2.out hst (by rw [← HR.out]; exact hRn) hown5
      rw [← HR.out] at J6
      have HJ : Hid (Calls Trym.prog 8 #[.slice (some ⟨w2.heap.size, 0, none⟩) (n + len2) (n + len2), .int .i64 (st : Int)] w5 fun e w' => e = .returned (.int .i64 (R : Int)) ∧ w5 = w') := J6
      clear J6 hown5
      go_wp2_with (go_at_call 8; refine HJ.out.mono ?_; rintro e w' ⟨rfl, rfl⟩)
      go_ret
      exact ⟨rfl, J5⟩
    · go_wp2
      go_ret
      exact ⟨rfl, hbel2⟩
  · have hd : (st : Int) < (n : Int) := by omega
    have hc0 := hcell0 h1
    clear hcell0
    go_wp2_with (go_at_call 11; refine (blank_any _ _).mono ?_; rintro e w' ⟨rfl, rfl⟩)
    refine HZ2.out.mono ?_
    clear HZ2
    rintro e w' ⟨rfl, rfl⟩
    by_cases hRn : R < n
    · go_wp2_with (at_make; refine wpList_make_own _ rfl _ _ 22 rfl w.heap.size 5 i0 (.int .u8 0) 1 Trym.underlying22 hi hz0 hz1 _ _ _ (n + len2) rfl rfl (by omega) ?b1 ?b2 ?b3 ?_)
      case b1 => rw [hz2]; omega
      case b2 => unfold maxLen; omega
      case b3 => exact hbel2.size
      intro w3 hown3 hgrow3
      have J := join_one (w := w) HC.out HFD.out HO.out hgrow3
      clear hgrow3
      go_wp2_with (at_builtin; refine wpList_append_fits_any _ rfl (.tmp 94) (.tmp 95) 22 rfl w.heap.size 5 i0 1 Trym.underlying22 hi hz1 w2.heap.size 0 (n + len2) [] rfl hown3 _ n n (icells (z.take n)) rfl (by rw [J.1]; omega) (by simp) J.2.1 (ints_oneCell .u8 _) (by omega) ?_)
      intro w4 hown4 hgrow4
      have J4 := join_two (w := w) J.2.2 hbel2 hgrow4 HY.out h2l
      clear hgrow4 hown3 J
      go_wp2_with (at_builtin; refine wpList_append_fits_any _ rfl (.tmp 97) (.tmp 98) 22 rfl w.heap.size 5 i0 1 Trym.underlying22 hi hz1 w2.heap.size n (n + len2) (icells (z.take n)) rfl hown4 _ len2 cap2 (icells (z2.take len2)) rfl (by rw [J4.1]; omega) HY0.out J4.2.1 (ints_oneCell .u8 _) (by omega) ?_)
      intro w5 hown5 hgrow5
      have J5 := join_three (w := w) J4.2.2 hbel2 hgrow5
      clear hgrow5 hown4 J4
      have J6 := join_zz (st := st) HFD.out (by have := HZ.out; omega) hlen HWF.out HW2.out hst (by rw [← HR.out]; exact hRn) hown5
      rw [← HR.out] at J6
      have HJ : Hid (Calls Trym.prog 8 #[.slice (some ⟨w2.heap.size, 0, none⟩) (n + len2) (n + len2), .int .i64 (st : Int)] w5 fun e w' => e = .returned (.int .i64 (R : Int)) ∧ w5 = w') := J6
      clear J6 hown5
      go_wp2_with (go_at_call 8; refine HJ.out.mono ?_; rintro e w' ⟨rfl, rfl⟩)
      go_ret
      exact ⟨rfl, J5⟩
    · go_wp2
      go_ret
      exact ⟨rfl, hbel2⟩
  · have hd : (st : Int) < (n : Int) := by omega
    have hc0 := hcell0 h1
    have h3' : (c != 44) = false := by simp [h3]
    clear hcell0 h3
    go_wp2_with (go_at_call 11; refine (blank_any _ _).mono ?_; rintro e w' ⟨rfl, rfl⟩)
    refine HZ2.out.mono ?_
    clear HZ2
    rintro e w' ⟨rfl, rfl⟩
    by_cases hRn : R < n
    · go_wp2_with (at_make; refine wpList_make_own _ rfl _ _ 22 rfl w.heap.size 5 i0 (.int .u8 0) 1 Trym.underlying22 hi hz0 hz1 _ _ _ (n + len2) rfl rfl (by omega) ?b1 ?b2 ?b3 ?_)
      case b1 => rw [hz2]; omega
      case b2 => unfold maxLen; omega
      case b3 => exact hbel2.size
      intro w3 hown3 hgrow3
      have J := join_one (w := w) HC.out HFD.out HO.out hgrow3
      clear hgrow3
      go_wp2_with (at_builtin; refine wpList_append_fits_any _ rfl (.tmp 94) (.tmp 95) 22 rfl w.heap.size 5 i0 1 Trym.underlying22 hi hz1 w2.heap.size 0 (n + len2) [] rfl hown3 _ n n (icells (z.take n)) rfl (by rw [J.1]; omega) (by simp) J.2.1 (ints_oneCell .u8 _) (by omega) ?_)
      intro w4 hown4 hgrow4
      have J4 := join_two (w := w) J.2.2 hbel2 hgrow4 HY.out h2l
      clear hgrow4 hown3 J
      go_wp2_with (at_builtin; refine wpList_append_fits_any _ rfl (.tmp 97) (.tmp 98) 22 rfl w.heap.size 5 i0 1 Trym.underlying22 hi hz1 w2.heap.size n (n + len2) (icells (z.take n)) rfl hown4 _ len2 cap2 (icells (z2.take len2)) rfl (by rw [J4.1]; omega) HY0.out J4.2.1 (ints_oneCell .u8 _) (by omega) ?_)
      intro w5 hown5 hgrow5
      have J5 := join_three (w := w) J4.2.2 hbel2 hgrow5
      clear hgrow5 hown4 J4
      have J6 := join_zz (st := st) HFD.out (by have := HZ.out; omega) hlen HWF.out HW2.out hst (by rw [← HR.out]; exact hRn) hown5
      rw [← HR.out] at J6
      have HJ : Hid (Calls Trym.prog 8 #[.slice (some ⟨w2.heap.size, 0, none⟩) (n + len2) (n + len2), .int .i64 (st : Int)] w5 fun e w' => e = .returned (.int .i64 (R : Int)) ∧ w5 = w') := J6
      clear J6 hown5
      go_wp2_with (go_at_call 8; refine HJ.out.mono ?_; rintro e w' ⟨rfl, rfl⟩)
      go_ret
      exact ⟨rfl, J5⟩
    · go_wp2
      go_ret
      exact ⟨rfl, hbel2⟩
  · have hd : (st : Int) < (n : Int) := by omega
    have hc0 := hcell0 h1
    have h3' : (c != 44) = true := bne_iff_ne.2 h3
    have h4' : ((R : Int) == (st : Int)) = false := beq_eq_false_iff_ne.2 (by omega)
    clear hcell0 h3
    go_wp2_with (go_at_call 11; refine (blank_any _ _).mono ?_; rintro e w' ⟨rfl, rfl⟩)
    refine HZ2.out.mono ?_
    clear HZ2
    rintro e w' ⟨rfl, rfl⟩
    by_cases hRn : R < n
    · go_wp2_with (at_make; refine wpList_make_own _ rfl _ _ 22 rfl w.heap.size 5 i0 (.int .u8 0) 1 Trym.underlying22 hi hz0 hz1 _ _ _ (n + len2) rfl rfl (by omega) ?b1 ?b2 ?b3 ?_)
      case b1 => rw [hz2]; omega
      case b2 => unfold maxLen; omega
      case b3 => exact hbel2.size
      intro w3 hown3 hgrow3
      have J := join_one (w := w) HC.out HFD.out HO.out hgrow3
      clear hgrow3
      go_wp2_with (at_builtin; refine wpList_append_fits_any _ rfl (.tmp 94) (.tmp 95) 22 rfl w.heap.size 5 i0 1 Trym.underlying22 hi hz1 w2.heap.size 0 (n + len2) [] rfl hown3 _ n n (icells (z.take n)) rfl (by rw [J.1]; omega) (by simp) J.2.1 (ints_oneCell .u8 _) (by omega) ?_)
      intro w4 hown4 hgrow4
      have J4 := join_two (w := w) J.2.2 hbel2 hgrow4 HY.out h2l
      clear hgrow4 hown3 J
      go_wp2_with (at_builtin; refine wpList_append_fits_any _ rfl (.tmp 97) (.tmp 98) 22 rfl w.heap.size 5 i0 1 Trym.underlying22 hi hz1 w2.heap.size n (n + len2) (icells (z.take n)) rfl hown4 _ len2 cap2 (icells (z2.take len2)) rfl (by rw [J4.1]; omega) HY0.out J4.2.1 (ints_oneCell .u8 _) (by omega) ?_)
      intro w5 hown5 hgrow5
      have J5 := join_three (w := w) J4.2.2 hbel2 hgrow5
      clear hgrow5 hown4 J4
      have J6 := join_zz (st := st) HFD.out (by have := HZ.out; omega) hlen HWF.out HW2.out hst (by rw [← HR.out]; exact hRn) hown5
      rw [← HR.out] at J6
      have HJ : Hid (Calls Trym.prog 8 #[.slice (some ⟨w2.heap.size, 0, none⟩) (n + len2) (n + len2), .int .i64 (st : Int)] w5 fun e w' => e = .returned (.int .i64 (R : Int)) ∧ w5 = w') := J6
      clear J6 hown5
      go_wp2_with (go_at_call 8; refine HJ.out.mono ?_; rintro e w' ⟨rfl, rfl⟩)
      go_ret
      exact ⟨rfl, J5⟩
    · go_wp2
      go_ret
      exact ⟨rfl, hbel2⟩

end Go.Proofs.Qxb6617940aMods
