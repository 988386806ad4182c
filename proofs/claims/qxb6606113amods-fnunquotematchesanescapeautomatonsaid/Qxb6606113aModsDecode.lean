/-
  zzDecode computes 'ans'.
-/
import Derived.Test.Qxb6606113aModsRowsOf
import Derived.BigQuiet
import Derived.Deep.QuietTactic
import Derived.WalkSmall
namespace Go.Proofs.Qxb6606113aMods
open Go.RowKit Plain

theorem byte_wrap (n : Nat) (h : n ≤ 255) : (((UInt8.ofNat n).toNat : Nat) : Int) = (n : Int) := by simp; omega

set_option maxRecDepth 10000 in
set_option maxHeartbeats 2000000 in
theorem decode_open (s : ByteArray) (hs : s.size ≤ 1048576) (h0 : 0 < s.size) (hq : ((s[0].toNat : Int) != 34) = false) (A : Option (List UInt8 × List UInt8)) (hA : Hid (dec (s.data.toList.drop 1) 0 0 [] = A)) (w : World) :
    Calls Trym.prog 15 #[.string s] w fun e w' => e = .returned (resV A) ∧ Below w.heap.size w w' := by
  obtain ⟨i0, hi, hz0, hz1, hz2⟩ := info_parts Trym.info5
  have hz : ((s.size : Int) == 0) = false := beq_eq_false_iff_ne.2 (by omega)
  go_enter Trym.func15, Trym.ntmps15
  go_wp2_with (at_make; refine wpList_make_own _ rfl _ _ 31 rfl w.heap.size 5 i0 (.int .u8 0) 1 Trym.underlying31 hi hz0 hz1 _ _ _ s.size rfl rfl rfl ?b1 ?b2 ?b3 ?_)
  case b1 => rw [hz2]; omega
  case b2 => unfold maxLen; omega
  case b3 => exact Nat.le_refl _
  intro w1 hown0 hgrow0
  have hbel0 : Below w.heap.size w w1 := (Below.refl _ _).grown hgrow0 (Nat.le_refl _) (by simp)
  clear hgrow0
  go_wp2
  go_loopw [5, 6, 7, 8] (fun v st x i wr => ∃ (k t u : Nat) (acc : List UInt8), 1 ≤ k ∧ k ≤ s.size ∧ i = .int .i64 k ∧ st = .int .i64 t ∧ x = .int .i64 u ∧ t ≤ 3 ∧ u ≤ 255 ∧ (t = 2 → u ≤ 3) ∧ (t = 3 → u ≤ 31) ∧ acc.length ≤ k ∧ wr.ownsRow w.heap.size 5 1 v acc.length (bcells acc) ∧ Below w.heap.size w wr ∧ Hid (dec (s.data.toList.drop k) t u acc = A))
    (fun _ _ _ i _ => s.size - (intOf i).toNat)
  case atStart => exact ⟨1, 0, 0, [], by omega, by omega, rfl, rfl, rfl, by omega, by omega, by omega, by omega, by simp, hown0, hbel0, hA⟩
  case round =>
    obtain ⟨k, t, u, acc, hk1, hk2, rfl, rfl, rfl, ht3, hu, hu2, hu3, hal, hown, hbel, HA⟩ := hrel
    clear hA hown0 hbel0
    by_cases hlt : k < s.size
    · obtain rfl | rfl | rfl | rfl : t = 0 ∨ t = 1 ∨ t = 2 ∨ t = 3 := by omega
      · -- plain
        clear hu2 hu3
        by_cases hc34 : s[k].toNat = 34
        · have hcv := fun n => row_string hown (wr.drewN n) rfl
          have hi34 : ((s[k].toNat : Int) == 34) = true := by simp [hc34]
          have HC : Hid (s[k].toNat = 34) := hc34
          clear hc34 hown
          go_wp2
          go_quiet (fail)
          go_wp2
          go_ret3
          have : A = some (acc, s.data.toList.drop (k + 1)) := by rw [← HA.out]; exact s_quote s k u acc hlt HC.out
          subst this
          refine ⟨?_, below_drewN hbel _⟩
          show Ending.returned (.tuple #[.string ⟨acc.toArray⟩, .string (s.extract (k + 1) s.size), .bool true]) = _
          rw [from_string]; rfl
        · have hi34 : ((s[k].toNat : Int) == 34) = false := beq_eq_false_iff_ne.2 (by omega)
          by_cases hc92 : s[k].toNat = 92
          · have hi92 : ((s[k].toNat : Int) == 92) = true := by simp [hc92]
            have HA1 : Hid (dec (s.data.toList.drop (k + 1)) 1 u acc = A) := by show _ = _; rw [← HA.out]; exact (s_back s k u acc hlt hc92).symm
            clear hc92 hc34 HA
            go_wp2
            go_roundw
            case rel => exact ⟨k + 1, 1, u, acc, by omega, by omega, by go_num, rfl, rfl, by omega, by omega, by omega, by omega, by omega, hown, hbel, HA1⟩
            case measure => simp [intOf]; omega
          · have hi92 : ((s[k].toNat : Int) == 92) = false := beq_eq_false_iff_ne.2 (by omega)
            have HA1 : Hid (dec (s.data.toList.drop (k + 1)) 0 u (acc ++ [s[k]]) = A) := by show _ = _; rw [← HA.out]; exact (s_plain s k u acc hlt hc34 hc92).symm
            clear hc92 hc34 HA
            go_wp2_with (at_builtin; refine wpList_append_own _ rfl _ _ 31 rfl w.heap.size 5 i0 (.int .u8 0) 1 1 Trym.underlying31 hi hz0 hz1 hz2 rfl (by decide) _ _ _ rfl (hown.alloc _) ⟨wr.heap.size, 0, none⟩ 1 1 [.int .u8 (s[k].toNat : Int)] rfl rfl ?p1 ?p2 ?p3 ?p4 ?p5 ?_)
            case p1 => exact cell_one_new _ _ _
            case p2 => exact one_byte _
            case p3 => unfold maxLen; omega
            case p4 => omega
            case p5 => have := hbel.size; simp; omega
            intro v' w1 hown' hgrow hnil
            clear hnil
            have R := grow_step s[k] hown hbel hown' hgrow
            clear hgrow hown' hown hbel
            go_wp2
            go_roundw
            case rel => exact ⟨k + 1, 0, u, acc ++ [s[k]], by omega, by omega, by go_num, rfl, rfl, by omega, by omega, by omega, by omega, by simp; omega, R.1, R.2, HA1⟩
            case measure => simp [intOf]; omega
      · -- after a backslash
        clear hu2 hu3
        cases hj : letJ s[k] with
        | some j =>
          have HJ : Hid (letJ s[k] = some j) := hj
          have HA1 : Hid (dec (s.data.toList.drop (k + 1)) 0 u (acc ++ [escB.getD j 0]) = A) := by show _ = _; rw [← HA.out]; exact (s_letter s k u acc hlt hj).symm
          obtain ⟨c, hc⟩ : ∃ c, c = escB.getD j 0 := ⟨_, rfl⟩
          have hzl : ∀ W, Calls Trym.prog 18 #[.int .u8 (s[k].toNat : Int)] W fun e w' => e = .returned (.tuple #[.int .u8 (c.toNat : Int), .bool true]) ∧ W = w' := fun W => by rw [hc]; exact zzLetter_some _ j hj W
          rw [← hc] at HA1
          have HZ : Hid (∀ W, Calls Trym.prog 18 #[.int .u8 (s[k].toNat : Int)] W fun e w' => e = .returned (.tuple #[.int .u8 (c.toNat : Int), .bool true]) ∧ W = w') := hzl
          clear hj hc HA HJ hzl
          go_wp2_with (first
            | (go_at_call 18; refine (HZ.out _).mono ?_; rintro e w' ⟨rfl, rfl⟩)
            | (at_builtin; refine wpList_append_own _ rfl _ _ 31 rfl w.heap.size 5 i0 (.int .u8 0) 1 1 Trym.underlying31 hi hz0 hz1 hz2 rfl (by decide) _ _ _ rfl (hown.alloc _) ⟨wr.heap.size, 0, none⟩ 1 1 [.int .u8 (c.toNat : Int)] rfl rfl ?q1 ?q2 ?q3 ?q4 ?q5 ?_))
          case q1 => exact cell_one_new _ _ _
          case q2 => exact one_byte _
          case q3 => unfold maxLen; omega
          case q4 => omega
          case q5 => have := hbel.size; simp; omega
          intro v' w1 hown' hgrow hnil
          clear hnil
          have R := grow_step c hown hbel hown' hgrow
          clear hgrow hown' hown hbel HZ
          go_wp2
          go_roundw
          case rel => exact ⟨k + 1, 0, u, acc ++ [c], by omega, by omega, by go_num, rfl, rfl, by omega, by omega, by omega, by omega, by simp; omega, R.1, R.2, HA1⟩
          case measure => simp [intOf]; omega
        | none =>
          have HJ : Hid (letJ s[k] = none) := hj
          clear hj
          by_cases hd : 48 ≤ s[k].toNat ∧ s[k].toNat ≤ 51
          · obtain ⟨hd1, hd2⟩ := hd
            have hd1' : 48 ≤ (s[k].toNat : Int) := by omega
            have hd2' : (s[k].toNat : Int) ≤ 51 := by omega
            have HA1 : Hid (dec (s.data.toList.drop (k + 1)) 2 (s[k].toNat - 48) acc = A) := by show _ = _; rw [← HA.out]; exact (s_digit s k u acc hlt HJ.out hd1 hd2).symm
            clear HA
            go_wp2_with (go_at_call 18; refine (zzLetter_none _ HJ.out _).mono ?_; rintro e w' ⟨rfl, rfl⟩)
            go_roundw
            case rel => exact ⟨k + 1, 2, s[k].toNat - 48, acc, by omega, by omega, by go_num, rfl, by go_num, by omega, by omega, by omega, by omega, by omega, hown, hbel, HA1⟩
            case measure => simp [intOf]; omega
          · have hN : A = none := by rw [← HA.out]; exact s_nodigit s k u acc hlt HJ.out (by omega)
            subst hN
            clear HA
            by_cases hd1 : 48 ≤ s[k].toNat
            · have hd1' : 48 ≤ (s[k].toNat : Int) := by omega
              have hd2' : decide ((s[k].toNat : Int) ≤ 51) = false := decide_eq_false (by omega)
              clear hd
              go_wp2_with (go_at_call 18; refine (zzLetter_none _ HJ.out _).mono ?_; rintro e w' ⟨rfl, rfl⟩)
              go_ret3
              exact ⟨rfl, hbel⟩
            · have hd1' : decide (48 ≤ (s[k].toNat : Int)) = false := decide_eq_false (by omega)
              clear hd
              go_wp2_with (go_at_call 18; refine (zzLetter_none _ HJ.out _).mono ?_; rintro e w' ⟨rfl, rfl⟩)
              go_ret3
              exact ⟨rfl, hbel⟩
      · -- after one digit
        have hu2' : u ≤ 3 := hu2 rfl
        clear hu2 hu3
        by_cases ho : 48 ≤ s[k].toNat ∧ s[k].toNat ≤ 55
        · obtain ⟨hd1, hd2⟩ := ho
          have hd1' : decide ((s[k].toNat : Int) < 48) = false := decide_eq_false (by omega)
          have hd2' : decide (55 < (s[k].toNat : Int)) = false := decide_eq_false (by omega)
          have HA1 : Hid (dec (s.data.toList.drop (k + 1)) 3 (u * 8 + (s[k].toNat - 48)) acc = A) := by show _ = _; rw [← HA.out]; exact (s_two s k u acc hlt hd1 hd2).symm
          clear HA
          go_wp2
          go_roundw
          case rel => exact ⟨k + 1, 3, u * 8 + (s[k].toNat - 48), acc, by omega, by omega, by go_num, rfl, by go_num, by omega, by omega, by omega, by omega, by omega, hown, hbel, HA1⟩
          case measure => simp [intOf]; omega
        · have hN : A = none := by rw [← HA.out]; exact s_nooct s k u acc 2 (by omega) hlt (by omega)
          subst hN
          clear HA
          by_cases hd1 : s[k].toNat < 48
          · have hd1' : decide ((s[k].toNat : Int) < 48) = true := decide_eq_true (by omega)
            clear ho
            go_wp2
            go_ret3
            exact ⟨rfl, hbel⟩
          · have hd1' : decide ((s[k].toNat : Int) < 48) = false := decide_eq_false (by omega)
            have hd2' : decide (55 < (s[k].toNat : Int)) = true := decide_eq_true (by omega)
            clear ho
            go_wp2
            go_ret3
            exact ⟨rfl, hbel⟩
      · -- after two digits
        have hu3' : u ≤ 31 := hu3 rfl
        clear hu2 hu3
        by_cases ho : 48 ≤ s[k].toNat ∧ s[k].toNat ≤ 55
        · obtain ⟨hd1, hd2⟩ := ho
          have hd1' : decide ((s[k].toNat : Int) < 48) = false := decide_eq_false (by omega)
          have hd2' : decide (55 < (s[k].toNat : Int)) = false := decide_eq_false (by omega)
          have HA1 : Hid (dec (s.data.toList.drop (k + 1)) 0 (u * 8 + (s[k].toNat - 48)) (acc ++ [UInt8.ofNat (u * 8 + (s[k].toNat - 48))]) = A) := by show _ = _; rw [← HA.out]; exact (s_three s k u acc hlt hd1 hd2).symm
          clear HA
          go_wp2_with (at_builtin; refine wpList_append_own _ rfl _ _ 31 rfl w.heap.size 5 i0 (.int .u8 0) 1 1 Trym.underlying31 hi hz0 hz1 hz2 rfl (by decide) _ _ _ rfl (hown.alloc _) ⟨wr.heap.size, 0, none⟩ 1 1 [_] (by rfl) (by rfl) (cell_one_new _ _ _) (one_byte _) ?r3 ?r4 ?r5 ?_)
          case r3 => unfold maxLen; omega
          case r4 => omega
          case r5 => have := hbel.size; simp; omega
          intro v' w1 hown' hgrow hnil
          clear hnil
          rw [show ((u : Int) * 8 + ((s[k].toNat : Int) - 48)) = ((UInt8.ofNat (u * 8 + (s[k].toNat - 48))).toNat : Int) from by rw [byte_wrap _ (by omega)]; omega] at hown'
          have R := grow_step _ hown hbel hown' hgrow
          clear hgrow hown' hown hbel
          go_wp2
          go_roundw
          case rel => exact ⟨k + 1, 0, u * 8 + (s[k].toNat - 48), _, by omega, by omega, by go_num, rfl, by go_num, by omega, by omega, by omega, by omega, by simp; omega, R.1, R.2, HA1⟩
          case measure => simp [intOf]; omega
        · have hN : A = none := by rw [← HA.out]; exact s_nooct s k u acc 3 (by omega) hlt (by omega)
          subst hN
          clear HA
          by_cases hd1 : s[k].toNat < 48
          · have hd1' : decide ((s[k].toNat : Int) < 48) = true := decide_eq_true (by omega)
            clear ho
            go_wp2
            go_ret3
            exact ⟨rfl, hbel⟩
          · have hd1' : decide ((s[k].toNat : Int) < 48) = false := decide_eq_false (by omega)
            have hd2' : decide (55 < (s[k].toNat : Int)) = true := decide_eq_true (by omega)
            clear ho
            go_wp2
            go_ret3
            exact ⟨rfl, hbel⟩
    · clear hu2 hu3
      go_wp2
      go_ret3
      have : A = none := by rw [← HA.out]; exact s_end s k u acc t (by omega)
      subst this
      exact ⟨rfl, hbel⟩

end Go.Proofs.Qxb6606113aMods
