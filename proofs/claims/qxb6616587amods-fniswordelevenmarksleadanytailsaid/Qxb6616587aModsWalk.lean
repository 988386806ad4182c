/-
  The walk of FnIsWordElevenMarksLeadAnyTail.
-/
import Derived.Test.Qxb6616587aModsSmall
import Derived.Laws.CopyOwn
namespace Go.Proofs.Qxb6616587aMods
open Go.RowKit

theorem made_block {w1 : World} {base B n : Nat} (h : w1.ownsRow base 5 1 (.slice (some ⟨B, 0, none⟩) n n) n (madeCells #[.int .u8 0] n).toList) :
    w1.heap[B]? = some (.cells (List.replicate n (.int .u8 0)).toArray 5 (0, 0)) := by
  rcases h.2 with ⟨hv, _⟩ | ⟨g, cap, cur, hv, _, hh, _, _, hsz, htake⟩
  · simp at hv
  · simp at hv
    obtain ⟨rfl, rfl⟩ := hv
    rw [hh]
    have e : cur.toList = List.replicate n (.int .u8 0) := by
      rw [toList_madeCells_one] at htake
      rw [← htake, List.take_of_length_le (by simp [hsz])]
    rw [← e]

theorem own_of_block {w2 : World} {base B n : Nat} {xs : List Value} (hb : w2.heap[B]? = some (.cells xs.toArray 5 (0, 0))) (hn : xs.length = n) (hm : n ≤ maxLen) (hB : base ≤ B) :
    w2.ownsRow base 5 1 (.slice (some ⟨B, 0, none⟩) n n) n xs :=
  ⟨by omega, .inr ⟨B, n, xs.toArray, rfl, hB, hb, Nat.le_refl _, hm, by simp; omega, by subst hn; simp⟩⟩

theorem copied (l : List UInt8) : ((List.replicate (l.length + 1) (Value.int .u8 0)).take 1 ++ Lib.byteCells l ++ (List.replicate (l.length + 1) (Value.int .u8 0)).drop (1 + l.length)) = .int .u8 0 :: bcells l := by
  have e : (List.replicate (l.length + 1) (Value.int .u8 0)).drop (1 + l.length) = [] := List.drop_eq_nil_of_le (by simp; omega)
  rw [e]
  simp [Lib.byteCells, bcells]

/-- The tail copied in. -/
theorem copy_in (t : ByteArray) (hs : t.size ≤ 65536) (w w1 : World) (hbel1 : Below w.heap.size w w1) (hblk : w1.heap[w.heap.size]? = some (.cells (List.replicate (t.size + 1) (.int .u8 0)).toArray 5 (0, 0))) :
    ∃ w2, (Builtin.copy_ #[23, 9] 3 #[.slice (some ⟨w.heap.size, 1, none⟩) t.size t.size, .string t]).run Trym.prog w1 = .ok (goInt t.size) w2 ∧ Below w.heap.size w w2 ∧
      w2.ownsRow w.heap.size 5 1 (.slice (some ⟨w.heap.size, 0, none⟩) (t.size + 1) (t.size + 1)) (t.size + 1) (.int .u8 0 :: bcells t.data.toList) := by
  have hr := Lib.run_copy_row_string (P := Trym.prog) w1 23 9 3 5 w.heap.size 1 t.size t.size t _ 5 Trym.underlying23 (by kernel_rfl) hblk (Nat.le_refl _) (by simp; omega)
  refine ⟨_, hr, below_setRow hbel1 (Nat.le_refl w.heap.size) _, ?_⟩
  have hl : t.data.toList.length = t.size := rfl
  have e := copied t.data.toList
  rw [hl] at e
  show World.ownsRow (w1.setRow w.heap.size ((List.replicate (t.size + 1) (Value.int IntKind.u8 0)).take 1 ++ Lib.byteCells t.data.toList ++ (List.replicate (t.size + 1) (Value.int IntKind.u8 0)).drop (1 + t.size)).toArray) _ _ _ _ _ _
  rw [e]
  exact own_of_block (setRow_heap w1 w.heap.size _ _ 5 _ hblk) (by simp [bcells_length, hl]) (by unfold maxLen; omega) (Nat.le_refl _)

/-- One round's facts. -/
theorem round_facts {wr : World} {B n : Nat} {tl : List UInt8} {x : Int} (hn : tl.length + 1 = n) (h : wr.ownsRow B 5 1 (.slice (some ⟨B, 0, none⟩) n n) n (.int .u8 x :: bcells tl)) (k : Nat) (hk : k < 256) :
    wr.cell? ⟨B, 0, none⟩ = some (.int .u8 x) ∧ wr.frozen? ⟨B, 0, none⟩ = false ∧
    (wr.setCell ⟨B, 0, none⟩ (.int .u8 (k : Int))).ownsRow B 5 1 (.slice (some ⟨B, 0, none⟩) n n) n (.int .u8 (k : Int) :: bcells tl) ∧
    (convert 23 9 (.slice (some ⟨B, 0, none⟩) n n)).run Trym.prog (wr.setCell ⟨B, 0, none⟩ (.int .u8 (k : Int))) = .ok (.string ⟨(UInt8.ofNat k :: tl).toArray⟩) (wr.setCell ⟨B, 0, none⟩ (.int .u8 (k : Int))) := by
  have h1 := h.cellAt 0 (by omega)
  have h2 := h.frozenAt 0
  have h3 := (h.stored 0 (.int .u8 (k : Int))).1
  simp only [List.getElem?_cons_zero] at h1
  refine ⟨h1, h2, ?_, ?_⟩
  · simpa using h3
  · subst hn
    have e : (.int .u8 (k : Int) :: bcells tl) = bcells (UInt8.ofNat k :: tl) := by
      simp [bcells]; omega
    have h4 : (wr.setCell ⟨B, 0, none⟩ (.int .u8 (k : Int))).ownsRow B 5 1 (.slice (some ⟨B, 0, none⟩) (tl.length + 1) (tl.length + 1)) (tl.length + 1) (bcells (UInt8.ofNat k :: tl)) := by
      rw [← e]; simpa using h3
    exact row_string (acc := UInt8.ofNat k :: tl) h4

set_option maxRecDepth 10000 in
set_option maxHeartbeats 1000000 in
theorem walk_short (t : ByteArray) (hs : t.size ≤ 65536) (w : World) :
    Calls Trym.prog 3 #[.string t] w fun e w' => e = .returned (.bool true) ∧ Below w.heap.size w w' := by
  obtain ⟨i0, hi, hz0, hz1, hz2⟩ := info_parts Trym.info5
  go_enter Trym.func3, Trym.ntmps3
  go_wp2_with (first
    | (go_at_call 4; refine (bytes_yes _ (by omega) _).mono ?_; rintro e w' ⟨rfl, rfl⟩)
    | (at_make; refine wpList_make_full _ rfl _ _ 23 rfl w.heap.size 5 i0 (.int .u8 0) 1 Trym.underlying23 hi hz0 hz1 _ _ _ _ (t.size + 1) rfl rfl (by omega) (by omega) ?b1 ?b2 ?b3 ?_))
  case b1 => rw [hz2]; omega
  case b2 => unfold maxLen; omega
  case b3 => exact Nat.le_refl _
  intro w1 hown0 hgrow0
  have hbel1 : Below w.heap.size w w1 := (Below.refl _ _).grown hgrow0 (Nat.le_refl _) (by simp)
  have hblk := made_block hown0
  clear hgrow0 hown0
  obtain ⟨tl, htl⟩ : ∃ tl, tl = t.data.toList := ⟨_, rfl⟩
  have hlen : tl.length + 1 = t.size + 1 := by rw [htl]; rfl
  have HL : Hid (tl.length + 1 = t.size + 1) := hlen
  clear hlen
  obtain ⟨w2, hr, hbel2, hown2⟩ : ∃ w2, Hid ((0 < t.size → (Builtin.copy_ #[23, 9] 3 #[.slice (some ⟨w.heap.size, 1, none⟩) t.size t.size, .string t]).run Trym.prog w1 = .ok (goInt t.size) w2) ∧ (t.size = 0 → w2 = w1)) ∧ Below w.heap.size w w2 ∧
      w2.ownsRow w.heap.size 5 1 (.slice (some ⟨w.heap.size, 0, none⟩) (t.size + 1) (t.size + 1)) (t.size + 1) (.int .u8 0 :: bcells tl) := by
    subst htl
    by_cases h0 : 0 < t.size
    · obtain ⟨w2, a, b, c⟩ := copy_in t hs w w1 hbel1 hblk
      exact ⟨w2, ⟨fun _ => a, fun h => by omega⟩, b, c⟩
    · have hz : t.size = 0 := by omega
      refine ⟨w1, ⟨fun h => absurd h h0, fun _ => rfl⟩, hbel1, own_of_block ?_ ?_ (by unfold maxLen; omega) (Nat.le_refl _)⟩
      · rw [hblk, hz]
        have : t.data.toList = [] := List.eq_nil_of_length_eq_zero hz
        rw [this]; rfl
      · simp [bcells_length]
  clear hbel1 hblk htl
  by_cases h0 : 0 < t.size
  · have hpos : (1 : Int) < (t.size : Int) + 1 := by omega
    have hne : ¬ t = ByteArray.empty := fun h => by rw [h] at h0; exact absurd h0 (by decide)
    have hne0 : ¬ t.size = 0 := by omega
    go_wp2_with (refine Lib.wpList_copy_run _ rfl (.tmp 18) (.tmp 19) 23 9 rfl _ _ rfl rfl (hr.out.1 h0) ?_)
    have HN : Hid (tl.length + 1 = t.size + 1) := HL
    go_loopw [4, 5] (fun x i wr => ∃ (k : Nat) (y : Int), k ≤ 256 ∧ i = .int .i64 k ∧ x = .int .i64 (cnt k : Int) ∧ wr.ownsRow w.heap.size 5 1 (.slice (some ⟨w.heap.size, 0, none⟩) (t.size + 1) (t.size + 1)) (t.size + 1) (.int .u8 y :: bcells tl) ∧ Below w.heap.size w wr)
      (fun _ i _ => 256 - (intOf i).toNat)
    case atStart => exact ⟨0, 0, by omega, rfl, rfl, hown2, hbel2⟩
    case round =>
      obtain ⟨k, y, hk, rfl, rfl, hown, hbel⟩ := hrel
      clear hown2 hbel2
      have hc := cnt_le k
      by_cases hlt : k < 256
      · obtain ⟨f1, f2, f3, f4⟩ := round_facts HN.out hown k hlt
        have hb3 : Below w.heap.size w (wr.setCell ⟨w.heap.size, 0, none⟩ (.int .u8 (k : Int))) := hbel.setCell (Nat.le_refl _) _
        have hw := fun W => isWord_at (UInt8.ofNat k) tl W
        rw [show (UInt8.ofNat k).toNat = k by simp; omega] at hw
        obtain ⟨S, hS⟩ : ∃ S : ByteArray, S = ⟨(UInt8.ofNat k :: tl).toArray⟩ := ⟨_, rfl⟩
        rw [← hS] at hw f4
        have HW : Hid (∀ W, Calls Trym.prog 5 #[.string S] W fun e w' => e = .returned (.bool (!markB k)) ∧ W = w') := hw
        clear hw hS hown hbel
        have hk0 : (0 : Int) ≤ (k : Int) := by omega
        have hk1 : (k : Int) < 256 := by omega
        cases hm : markB k with
        | true =>
          have HC : Hid (cnt (k + 1) = cnt k) := cnt_no k hm
          go_wp2_with (first
            | (go_at_call 5; refine (HW.out _).mono ?_; rintro e w' ⟨rfl, rfl⟩)
            | (go_at_call 6; refine (label_yes k hm _).mono ?_; rintro e w' ⟨rfl, rfl⟩))
          go_roundw
          case rel => exact ⟨k + 1, _, by omega, by go_num, by rw [HC.out], f3, hb3⟩
          case measure => simp [intOf]; omega
        | false =>
          have HC : Hid (cnt (k + 1) = cnt k + 1) := cnt_yes k hm
          go_wp2_with (first
            | (go_at_call 5; refine (HW.out _).mono ?_; rintro e w' ⟨rfl, rfl⟩)
            | (go_at_call 6; refine (label_no k hm _).mono ?_; rintro e w' ⟨rfl, rfl⟩))
          go_roundw
          case rel => exact ⟨k + 1, _, by omega, by go_num, by rw [HC.out]; go_num, f3, hb3⟩
          case measure => simp [intOf]; omega
      · have hkk : k = 256 := by omega
        subst hkk
        have hcc : (cnt 256 : Int) = 245 := by rw [cnt_all]; rfl
        clear hlt
        go_wp2
        go_ret
        exact ⟨rfl, hbel⟩
  · have hz : t.size = 0 := by omega
    have : w2 = w1 := hr.out.2 hz
    subst this
    go_wp2_with (refine Lib.wpList_copy_run _ rfl (.tmp 18) (.tmp 19) 23 9 rfl _ _ rfl rfl (Lib.run_copy_empty_string _ _ _ _ 5 _ _ _ _ Trym.underlying23 (by kernel_rfl) (by first | exact hz | rfl)) ?_)
    have HN : Hid (tl.length + 1 = 1) := by show _ = _; rw [HL.out, hz]
    rw [hz, Nat.zero_add] at hown2
    clear hz h0 hr
    go_loopw [4, 5] (fun x i wr => ∃ (k : Nat) (y : Int), k ≤ 256 ∧ i = .int .i64 k ∧ x = .int .i64 (cnt k : Int) ∧ wr.ownsRow w.heap.size 5 1 (.slice (some ⟨w.heap.size, 0, none⟩) 1 1) 1 (.int .u8 y :: bcells tl) ∧ Below w.heap.size w wr)
      (fun _ i _ => 256 - (intOf i).toNat)
    case atStart => exact ⟨0, 0, by omega, rfl, rfl, hown2, hbel2⟩
    case round =>
      obtain ⟨k, y, hk, rfl, rfl, hown, hbel⟩ := hrel
      clear hown2 hbel2
      have hc := cnt_le k
      by_cases hlt : k < 256
      · obtain ⟨f1, f2, f3, f4⟩ := round_facts HN.out hown k hlt
        have hb3 : Below w.heap.size w (wr.setCell ⟨w.heap.size, 0, none⟩ (.int .u8 (k : Int))) := hbel.setCell (Nat.le_refl _) _
        have hw := fun W => isWord_at (UInt8.ofNat k) tl W
        rw [show (UInt8.ofNat k).toNat = k by simp; omega] at hw
        obtain ⟨S, hS⟩ : ∃ S : ByteArray, S = ⟨(UInt8.ofNat k :: tl).toArray⟩ := ⟨_, rfl⟩
        rw [← hS] at hw f4
        have HW : Hid (∀ W, Calls Trym.prog 5 #[.string S] W fun e w' => e = .returned (.bool (!markB k)) ∧ W = w') := hw
        clear hw hS hown hbel
        have hk0 : (0 : Int) ≤ (k : Int) := by omega
        have hk1 : (k : Int) < 256 := by omega
        cases hm : markB k with
        | true =>
          have HC : Hid (cnt (k + 1) = cnt k) := cnt_no k hm
          go_wp2_with (first
            | (go_at_call 5; refine (HW.out _).mono ?_; rintro e w' ⟨rfl, rfl⟩)
            | (go_at_call 6; refine (label_yes k hm _).mono ?_; rintro e w' ⟨rfl, rfl⟩))
          go_roundw
          case rel => exact ⟨k + 1, _, by omega, by go_num, by rw [HC.out], f3, hb3⟩
          case measure => simp [intOf]; omega
        | false =>
          have HC : Hid (cnt (k + 1) = cnt k + 1) := cnt_yes k hm
          go_wp2_with (first
            | (go_at_call 5; refine (HW.out _).mono ?_; rintro e w' ⟨rfl, rfl⟩)
            | (go_at_call 6; refine (label_no k hm _).mono ?_; rintro e w' ⟨rfl, rfl⟩))
          go_roundw
          case rel => exact ⟨k + 1, _, by omega, by go_num, by rw [HC.out]; go_num, f3, hb3⟩
          case measure => simp [intOf]; omega
      · have hkk : k = 256 := by omega
        subst hkk
        have hcc : (cnt 256 : Int) = 245 := by rw [cnt_all]; rfl
        clear hlt
        go_wp2
        go_ret
        exact ⟨rfl, hbel⟩

end Go.Proofs.Qxb6616587aMods
