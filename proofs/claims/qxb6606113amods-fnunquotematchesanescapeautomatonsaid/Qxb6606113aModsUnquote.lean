/-
  unquote computes 'ans'.
-/
import Derived.Test.Qxb6606113aModsRowsOf
import Derived.Deep.RegionHeld3
import Derived.BigQuiet
import Derived.BigRegion
import Derived.Deep.QuietTactic
import Derived.WalkSmall
namespace Go.Proofs.Qxb6606113aMods
open Go.RowKit Plain

theorem esc_at (j : Nat) (h : j < 9) : escB.getD j 0 = (⟨#[34, 92, 7, 8, 12, 10, 13, 9, 11]⟩ : ByteArray)[j]'h := by
  match j, h with
  | 0, _ => rfl | 1, _ => rfl | 2, _ => rfl | 3, _ => rfl | 4, _ => rfl | 5, _ => rfl | 6, _ => rfl | 7, _ => rfl | 8, _ => rfl

theorem wrap_in {a b : Int} (h : a = b) (h1 : 0 ≤ a) (h2 : a ≤ 2000000) : IntKind.i64.wrap a = b := by
  subst h; rw [IntKind.wrap_i64]; omega
theorem index_at (s : ByteArray) (n : Nat) (h : n < s.size) (i : Int) (hi : i = (n : Int)) (W : World) : (Instr.index 9 (.string s) (.int .i64 i)).run Trym.prog W = .ok (.int .u8 (s[n].toNat : Int)) W := by
  subst hi
  rw [run_index_string W 9 s .i64 (n : Int) Trym.underlying9, dif_pos ⟨by omega, by omega⟩]
  simp

set_option maxRecDepth 10000 in
set_option maxHeartbeats 1000000 in
theorem unquote_open (s : ByteArray) (hs : s.size ≤ 1048576) (h0 : 0 < s.size) (hq : (s[0] == 34) = true) (A : Option (List UInt8 × List UInt8)) (hA : Hid (dec (s.data.toList.drop 1) 0 0 [] = A)) (w : World) :
    Calls Trym.prog 17 #[.string s] w fun e w' => e = .returned (resV A) ∧ Below w.heap.size w w' := by
  obtain ⟨i0, hi, hz0, hz1, hz2⟩ := info_parts Trym.info5
  go_enter Trym.func17, Trym.ntmps17
  go_wp2_with (go_at_call 19; refine (prefix_some _ h0 _).mono ?_; rintro e w' ⟨rfl, rfl⟩)
  go_loopw [5, 6] (fun v i wr => ∃ (k u : Nat) (acc : List UInt8), 1 ≤ k ∧ k ≤ s.size ∧ i = .int .i64 k ∧ acc.length ≤ k ∧ wr.ownsRow w.heap.size 5 1 v acc.length (bcells acc) ∧ Below w.heap.size w wr ∧ Hid (dec (s.data.toList.drop k) 0 u acc = A))
    (fun _ i _ => s.size - (intOf i).toNat)
  case atStart => exact ⟨1, 0, [], by omega, by omega, rfl, by simp, World.ownsRow_nil _ _ _ _, Below.refl _ _, hA⟩
  case round =>
    obtain ⟨k, u, acc, hk1, hk2, rfl, hal, hown, hbel, HA⟩ := hrel
    clear hA
    by_cases hlt : k < s.size
    · by_cases hc34 : s[k].toNat = 34
      · have hcv := fun n => row_string hown (wr.drewN n) rfl
        have hi34 : ((s[k].toNat : Int) == 34) = true := by simp [hc34]
        have HC : Hid (s[k].toNat = 34) := hc34
        clear hc34 hown
        go_wp2
        go_quiet (fail)
        go_wp2
        go_ret3
        have : A = some (acc, s.data.toList.drop (k + 1)) := by rw [← HA.out]; exact s_quote s k u acc hlt HC.out
        subst this
        refine ⟨?_, ?_⟩
        · show Ending.returned (.tuple #[.string ⟨acc.toArray⟩, .string (s.extract (k + 1) s.size), .bool true]) = _
          rw [from_string]; rfl
        · exact below_drewN hbel _
      · have hi34 : ((s[k].toNat : Int) == 34) = false := by simp; omega
        by_cases hc92 : s[k].toNat = 92
        · have hi92 : ((s[k].toNat : Int) != 92) = false := by simp; omega
          have HC : Hid (s[k].toNat = 92) := hc92
          clear hc92 hc34
          by_cases hend : k + 1 = s.size
          · have he : ((k : Int) + 1 == (s.size : Int)) = true := by simp; omega
            clear hend
            go_wp2
            go_ret3
            have : A = none := by rw [← HA.out, s_back s k u acc hlt HC.out]; exact s_end s (k + 1) u acc 1 (by have : (k : Int) + 1 = (s.size : Int) := by simpa using he
                                                                                                                omega)
            subst this
            exact ⟨rfl, hbel⟩
          · have he : ((k : Int) + 1 == (s.size : Int)) = false := by simp; omega
            have hlt1 : k + 1 < s.size := by omega
            clear hend
            cases hj : letJ s[k + 1] with
            | some j =>
              have hj9 : j < 9 := letJ_lt hj
              have hj9' : (j : Int) < 9 := by omega
              have HJ : Hid (letJ s[k + 1] = some j) := hj
              clear hj
              go_wp2_with (first
                | (go_at_call 20; refine (letter_some _ j HJ.out _).mono ?_; rintro e w' ⟨rfl, rfl⟩)
                | (at_builtin; refine wpList_append_own _ rfl _ _ 31 rfl w.heap.size 5 i0 (.int .u8 0) 1 1 Trym.underlying31 hi hz0 hz1 hz2 rfl (by decide) _ _ _ rfl (hown.alloc _) ⟨wr.heap.size, 0, none⟩ 1 1 [.int .u8 (((⟨#[34, 92, 7, 8, 12, 10, 13, 9, 11]⟩ : ByteArray)[j]'hj9).toNat : Int)] rfl rfl ?d1 ?d2 ?d3 ?d4 ?d5 ?_))
              case d1 => exact cell_one_new _ _ _
              case d2 => exact one_byte _
              case d3 => unfold maxLen; omega
              case d4 => omega
              case d5 => have := hbel.size; simp; omega
              intro v' w1 hown' hgrow hnil
              clear hnil
              have R := grow_step (escB.getD j 0) hown hbel (by rw [show escB.getD j 0 = (⟨#[34, 92, 7, 8, 12, 10, 13, 9, 11]⟩ : ByteArray)[j]'hj9 from esc_at j hj9]; exact hown') hgrow
              have HA1 : Hid (dec (s.data.toList.drop (k + 2)) 0 u (acc ++ [escB.getD j 0]) = A) := by show _ = _; rw [← HA.out, s_back s k u acc hlt HC.out]; exact (s_letter s (k + 1) u acc hlt1 HJ.out).symm
              clear hgrow hown' hown hbel HA
              go_wp2
              go_roundw
              case rel => exact ⟨k + 2, u, acc ++ [escB.getD j 0], by omega, by omega, by go_num, by simp; omega, R.1, R.2, HA1⟩
              case measure => simp [intOf]; omega
            | none =>
              have HJ : Hid (letJ s[k + 1] = none) := hj
              clear hj
              by_cases g3 : k + 3 < s.size
              · have hd : decide ((s.size : Int) ≤ (k : Int) + 1 + 2) = false := decide_eq_false (by omega)
                by_cases bad : s[k + 1].toNat < 48 ∨ 51 < s[k + 1].toNat ∨ (s[k + 2].toNat < 48 ∨ 55 < s[k + 2].toNat) ∨ (s[k + 3].toNat < 48 ∨ 55 < s[k + 3].toNat)
                · have hN : A = none := by rw [← HA.out]; exact s_bad s k u acc hlt1 HC.out HJ.out (bad.elim (fun h => .inr (.inl h)) fun h => h.elim (fun h => .inr (.inr (.inl h))) fun h => h.elim (fun h => .inr (.inr (.inr (.inl ⟨by omega, h⟩)))) fun h => .inr (.inr (.inr (.inr ⟨g3, h⟩))))
                  subst hN
                  by_cases x1 : s[k + 1].toNat < 48
                  · have d1 : decide ((s[k + 1].toNat : Int) < 48) = true := decide_eq_true (by omega)
                    clear bad x1
                    go_wp2_with (first
                      | (go_at_call 20; refine (letter_none _ HJ.out _).mono ?_; rintro e w' ⟨rfl, rfl⟩)
                      | (go_at_call 21; refine (octal_any _ _).mono ?_; rintro e w' ⟨rfl, rfl⟩))
                    go_ret3
                    exact ⟨rfl, hbel⟩
                  have d1 : decide ((s[k + 1].toNat : Int) < 48) = false := decide_eq_false (by omega)
                  by_cases x2 : 51 < s[k + 1].toNat
                  · have d2 : decide ((51 : Int) < (s[k + 1].toNat : Int)) = true := decide_eq_true (by omega)
                    clear bad x1 x2
                    go_wp2_with (first
                      | (go_at_call 20; refine (letter_none _ HJ.out _).mono ?_; rintro e w' ⟨rfl, rfl⟩)
                      | (go_at_call 21; refine (octal_any _ _).mono ?_; rintro e w' ⟨rfl, rfl⟩))
                    go_ret3
                    exact ⟨rfl, hbel⟩
                  have d2 : decide ((51 : Int) < (s[k + 1].toNat : Int)) = false := decide_eq_false (by omega)
                  by_cases x3 : s[k + 2].toNat < 48 ∨ 55 < s[k + 2].toNat
                  · have d3 : octB (s[k + 2].toNat : Int) = false := octB_no (by omega)
                    clear bad x1 x2 x3
                    go_wp2_with (first
                      | (go_at_call 20; refine (letter_none _ HJ.out _).mono ?_; rintro e w' ⟨rfl, rfl⟩)
                      | (go_at_call 21; refine (octal_any _ _).mono ?_; rintro e w' ⟨rfl, rfl⟩))
                    go_ret3
                    exact ⟨rfl, hbel⟩
                  · have d3 : octB (s[k + 2].toNat : Int) = true := octB_yes (by omega) (by omega)
                    have d4 : octB (s[k + 3].toNat : Int) = false := octB_no (by omega)
                    clear bad x1 x2 x3
                    go_wp2_with (first
                      | (go_at_call 20; refine (letter_none _ HJ.out _).mono ?_; rintro e w' ⟨rfl, rfl⟩)
                      | (go_at_call 21; refine (octal_any _ _).mono ?_; rintro e w' ⟨rfl, rfl⟩))
                    go_ret3
                    exact ⟨rfl, hbel⟩
                · have d1 : decide ((s[k + 1].toNat : Int) < 48) = false := decide_eq_false (by omega)
                  have d2 : decide ((51 : Int) < (s[k + 1].toNat : Int)) = false := decide_eq_false (by omega)
                  have d3 : octB (s[k + 2].toNat : Int) = true := octB_yes (by omega) (by omega)
                  have d4 : octB (s[k + 3].toNat : Int) = true := octB_yes (by omega) (by omega)
                  have a1 : 48 ≤ (s[k + 1].toNat : Int) := by omega
                  have a2 : (s[k + 1].toNat : Int) ≤ 51 := by omega
                  have b1 : 48 ≤ (s[k + 2].toNat : Int) := by omega
                  have b2 : (s[k + 2].toNat : Int) ≤ 55 := by omega
                  have c1 : 48 ≤ (s[k + 3].toNat : Int) := by omega
                  have c2 : (s[k + 3].toNat : Int) ≤ 55 := by omega
                  clear bad
                  have hg3 : (k : Int) + 1 + 2 < (s.size : Int) := by omega
                  have hg2 : (k : Int) + 1 + 1 < (s.size : Int) := by omega
                  have ix2 := fun W => index_at s (k + 2) (by omega) (IntKind.i64.wrap ((k : Int) + 1 + 1)) (wrap_in (by omega) (by omega) (by omega)) W
                  have ix3 := fun W => index_at s (k + 3) g3 (IntKind.i64.wrap ((k : Int) + 1 + 2)) (wrap_in (by omega) (by omega) (by omega)) W
                  go_wp2_with (first
                      | (go_at_call 20; refine (letter_none _ HJ.out _).mono ?_; rintro e w' ⟨rfl, rfl⟩)
                      | (go_at_call 21; refine (octal_any _ _).mono ?_; rintro e w' ⟨rfl, rfl⟩))
                  go_region_held3 (fun w' => True) (trivial)
                    ((refine step_append_lies _ (by rfl) _ _ _ (by rfl) w.heap.size 5 i0 (.int .u8 0) 1 1 Trym.underlying31 hi hz0 hz1 hz2 rfl (by omega) u5 _ _ (by rfl) ((hown.alloc _).drew) ⟨wr.heap.size, 0, none⟩ 1 1 [_] (by rfl) (by rfl) (cell_one_new _ _ _) (one_byte _) (by omega) (by unfold maxLen; omega) (by omega) (by have := hbel.size; simp; omega) (wr.heap.size + 1) (by simp) ?_; intro gg cap w1 hown1 hgrow hat hggl))
                  all_goals
                    clear hat hggl ix2 ix3
                    rw [octal_byte _ _ _ (by omega) (by omega) (by omega) (by omega) (by omega) (by omega)] at hown1
                    have R := grow_step _ hown hbel hown1 (grown_undrew hgrow)
                    obtain ⟨u', hu'⟩ := s_octal s k u acc g3 HC.out HJ.out (by omega) (by omega) (by omega) (by omega) (by omega) (by omega)
                    have HA1 : Hid (dec (s.data.toList.drop (k + 4)) 0 u' (acc ++ [UInt8.ofNat (((s[k + 1].toNat - 48) * 8 + (s[k + 2].toNat - 48)) * 8 + (s[k + 3].toNat - 48))]) = A) := by show _ = _; rw [← HA.out]; exact hu'.symm
                    clear hu' hgrow hown1 hown hbel HA
                    go_wp2
                    go_roundw
                    case rel => exact ⟨k + 4, u', _, by omega, by omega, by go_num, by simp; omega, R.1, R.2, HA1⟩
                    case measure => simp [intOf]; omega
              · have hd : decide ((s.size : Int) ≤ (k : Int) + 1 + 2) = true := decide_eq_true (by omega)
                go_wp2_with (go_at_call 20; refine (letter_none _ HJ.out _).mono ?_; rintro e w' ⟨rfl, rfl⟩)
                go_ret3
                have : A = none := by rw [← HA.out]; exact s_bad s k u acc hlt1 HC.out HJ.out (.inl (by omega))
                subst this
                exact ⟨rfl, hbel⟩
        · have hi92 : ((s[k].toNat : Int) != 92) = true := by simp; omega
          have HC : Hid (s[k].toNat ≠ 34 ∧ s[k].toNat ≠ 92) := ⟨hc34, hc92⟩
          clear hc92 hc34
          go_wp2_with (at_builtin; refine wpList_append_own _ rfl _ _ 31 rfl w.heap.size 5 i0 (.int .u8 0) 1 1 Trym.underlying31 hi hz0 hz1 hz2 rfl (by decide) _ _ _ rfl (hown.alloc _) ⟨wr.heap.size, 0, none⟩ 1 1 [.int .u8 (s[k].toNat : Int)] rfl rfl ?c1 ?c2 ?c3 ?c4 ?c5 ?_)
          case c1 => exact cell_one_new _ _ _
          case c2 => intro u hu; simp at hu; subst hu; rfl
          case c3 => unfold maxLen; omega
          case c4 => omega
          case c5 => have := hbel.size; simp; omega
          intro v' w1 hown' hgrow hnil
          clear hnil
          rw [bcells_snoc] at hown'
          have hb1 : Below w.heap.size w w1 := (hbel.alloc hbel.size _).grown hgrow (by have := hbel.size; simp; omega) (fun k hk => (hown.lt k hk).1)
          have HA1 : Hid (dec (s.data.toList.drop (k + 1)) 0 u (acc ++ [s[k]]) = A) := by show _ = _; rw [← HA.out]; exact (s_plain s k u acc hlt HC.out.1 HC.out.2).symm
          clear hgrow hown hbel HA
          go_wp2
          go_roundw
          case rel => exact ⟨k + 1, u, acc ++ [s[k]], by omega, by omega, by go_num, by simp; omega, by simpa using hown', hb1, HA1⟩
          case measure => simp [intOf]; omega
    · go_wp2
      go_ret3
      have : A = none := by rw [← HA.out]; exact s_end s k u acc 0 (by omega)
      subst this
      exact ⟨rfl, hbel⟩

end Go.Proofs.Qxb6606113aMods
