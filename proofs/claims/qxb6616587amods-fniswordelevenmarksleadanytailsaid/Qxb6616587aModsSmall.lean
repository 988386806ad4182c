/-
  Contracts of the small functions on the road of FnIsWordElevenMarksLeadAnyTail.
-/
import Derived.Test.Qxb6616587aModsRows
import Derived.WalkKit
import Derived.WalkSpells
import Derived.Lib.Bytealg
import Derived.Lib.SlBuf
import Derived.Lib.BufferWrite
import Derived.Laws.IdiomStrings
namespace Go.Proofs.Qxb6616587aMods
open Go.RowKit

/-- Is it one of the eleven marks? -/
def markB (n : Nat) : Bool := [61, 33, 44, 40, 41, 60, 62, 32, 9, 13, 10].contains n

theorem indexByte9 (s : ByteArray) (c : Int) (w : World) :
    Calls Trym.prog 9 #[.string s, .int .u8 c] w fun e w' => e = .returned (.int .i64 (Lib.indexByte s.data.toList c.toNat.toUInt8)) ∧ w = w' := by
  go_enter Trym.func9, Trym.ntmps9
  go_wp2
  rw [run_callFunc_extern Trym.func10 (by kernel_rfl) (by kernel_rfl) (by kernel_rfl) (e := Extern.BytealgIndexByte.indexByte) (by kernel_rfl), Lib.run_indexByteString]
  simp only [Result.andThen]
  rw [Oper.upon_value]
  go_wp2
  go_ret
  exact ⟨rfl, rfl⟩

theorem indexByte8 (s : ByteArray) (c : Int) (w : World) :
    Calls Trym.prog 8 #[.string s, .int .u8 c] w fun e w' => e = .returned (.int .i64 (Lib.indexByte s.data.toList c.toNat.toUInt8)) ∧ w = w' := by
  go_enter Trym.func8, Trym.ntmps8
  go_wp2_with (go_at_call 9; refine (indexByte9 _ _ _).mono ?_; rintro e w' ⟨rfl, rfl⟩)
  go_ret
  exact ⟨rfl, rfl⟩

theorem mark_index (n : Nat) (h : n < 256) : decide (Lib.indexByte [61, 33, 44, 40, 41, 60, 62, 32, 9, 13, 10] (n : Int).toNat.toUInt8 < 0) = !markB n := by
  have key : ∀ n : Nat, n < 256 → decide (Lib.indexByte [61, 33, 44, 40, 41, 60, 62, 32, 9, 13, 10] (n : Int).toNat.toUInt8 < 0) = !markB n := by decide +kernel
  exact key n h

/-- strings.IndexByte at the marks: below 0 or not. -/
theorem mark_at (n : Nat) (h : n < 256) (w : World) :
    Calls Trym.prog 8 #[.string ⟨#[61, 33, 44, 40, 41, 60, 62, 32, 9, 13, 10]⟩, .int .u8 (n : Int)] w fun e w' => ∃ x : Int, e = .returned (.int .i64 x) ∧ Hid (decide (x < 0) = !markB n) ∧ w = w' := by
  refine (indexByte8 _ _ w).mono ?_
  rintro e w' ⟨rfl, rfl⟩
  exact ⟨_, rfl, mark_index n h, rfl⟩

/-- isWord at a string that begins with a byte. -/
theorem isWord_core (s : ByteArray) (hs : 0 < s.size) (he : s.toList.isEmpty = false) (n : Nat) (hn : s[0].toNat = n) (w : World) :
    Calls Trym.prog 7 #[.string s] w fun e w' => e = .returned (.bool (!markB n)) ∧ w = w' := by
  have hlt : s[0].toNat < 256 := s[0].toNat_lt
  subst hn
  have hs' : (0 : Int) < (s.size : Int) := by omega
  go_enter Trym.func7, Trym.ntmps7
  go_wp2_with (go_at_call 8; refine (mark_at _ hlt _).mono ?_; rintro e w' ⟨x, rfl, hx, rfl⟩)
  go_ret
  refine ⟨?_, rfl⟩
  show Ending.returned (.bool (decide (x < 0))) = _
  rw [hx.out]

theorem isWord_at (b : UInt8) (l : List UInt8) (w : World) :
    Calls Trym.prog 5 #[.string ⟨(b :: l).toArray⟩] w fun e w' => e = .returned (.bool (!markB b.toNat)) ∧ w = w' := by
  have h := fun w => isWord_core ⟨(b :: l).toArray⟩ (Nat.succ_pos _) (by rw [ByteArray.toList_mk]; rfl) b.toNat rfl w
  obtain ⟨s, hs⟩ : ∃ s : ByteArray, s = ⟨(b :: l).toArray⟩ := ⟨_, rfl⟩
  rw [← hs] at h ⊢
  have H : Hid (∀ w, Calls Trym.prog 7 #[.string s] w fun e w' => e = .returned (.bool (!markB b.toNat)) ∧ w = w') := h
  clear h hs
  go_enter Trym.func5, Trym.ntmps5
  go_wp2_with (go_at_call 7; refine (H.out _).mono ?_; rintro e w' ⟨rfl, rfl⟩)
  go_ret
  exact ⟨rfl, rfl⟩

/-- labelMarkByte. -/
theorem label_yes (n : Nat) (h : markB n = true) (w : World) : Calls Trym.prog 6 #[.int .u8 (n : Int)] w fun e w' => e = .returned (.bool true) ∧ w = w' := by
  have hn : n = 61 ∨ n = 33 ∨ n = 44 ∨ n = 40 ∨ n = 41 ∨ n = 60 ∨ n = 62 ∨ n = 32 ∨ n = 9 ∨ n = 13 ∨ n = 10 := by simpa [markB] using h
  clear h
  rcases hn with rfl | rfl | rfl | rfl | rfl | rfl | rfl | rfl | rfl | rfl | rfl
  all_goals
    go_enter Trym.func6, Trym.ntmps6
    go_wp2
    go_ret
    exact ⟨rfl, rfl⟩

theorem label_no (n : Nat) (h : markB n = false) (w : World) : Calls Trym.prog 6 #[.int .u8 (n : Int)] w fun e w' => e = .returned (.bool false) ∧ w = w' := by
  have hn : ¬ (n = 61 ∨ n = 33 ∨ n = 44 ∨ n = 40 ∨ n = 41 ∨ n = 60 ∨ n = 62 ∨ n = 32 ∨ n = 9 ∨ n = 13 ∨ n = 10) := by simpa [markB] using h
  have h1 : ((n : Int) == 61) = false := beq_eq_false_iff_ne.2 (by omega)
  have h2 : ((n : Int) == 33) = false := beq_eq_false_iff_ne.2 (by omega)
  have h3 : ((n : Int) == 44) = false := beq_eq_false_iff_ne.2 (by omega)
  have h4 : ((n : Int) == 40) = false := beq_eq_false_iff_ne.2 (by omega)
  have h5 : ((n : Int) == 41) = false := beq_eq_false_iff_ne.2 (by omega)
  have h6 : ((n : Int) == 60) = false := beq_eq_false_iff_ne.2 (by omega)
  have h7 : ((n : Int) == 62) = false := beq_eq_false_iff_ne.2 (by omega)
  have h8 : ((n : Int) == 32) = false := beq_eq_false_iff_ne.2 (by omega)
  have h9 : ((n : Int) == 9) = false := beq_eq_false_iff_ne.2 (by omega)
  have h10 : ((n : Int) == 13) = false := beq_eq_false_iff_ne.2 (by omega)
  have h11 : ((n : Int) == 10) = false := beq_eq_false_iff_ne.2 (by omega)
  clear hn h
  go_enter Trym.func6, Trym.ntmps6
  go_wp2
  go_ret
  exact ⟨rfl, rfl⟩

/-- The bound on the length. -/
theorem bytes_yes (s : ByteArray) (h : s.size ≤ 1048576) (w : World) : Calls Trym.prog 4 #[.string s] w fun e w' => e = .returned (.bool true) ∧ w = w' := by
  go_enter Trym.func4, Trym.ntmps4
  go_wp2
  go_ret
  exact ⟨rfl, rfl⟩
theorem bytes_no (s : ByteArray) (h : 1048576 < s.size) (w : World) : Calls Trym.prog 4 #[.string s] w fun e w' => e = .returned (.bool false) ∧ w = w' := by
  go_enter Trym.func4, Trym.ntmps4
  go_wp2
  go_ret
  exact ⟨rfl, rfl⟩

/-! ### The row of bytes -/
theorem Trym.info5 : (Trym.prog.info? 5).map (fun i => (i.zero, i.size, i.bytes)) = some (some (.int .u8 0), 1, 1) := by kernel_rfl

def bcells (l : List UInt8) : List Value := l.map fun b => .int .u8 (b.toNat : Int)
theorem bcells_length (l : List UInt8) : (bcells l).length = l.length := by simp [bcells]

/-- The row read as a string. -/
theorem row_string {w : World} {base g : Nat} {acc : List UInt8} (h : w.ownsRow base 5 1 (.slice (some ⟨g, 0, none⟩) acc.length acc.length) acc.length (bcells acc)) :
    (convert 23 9 (.slice (some ⟨g, 0, none⟩) acc.length acc.length)).run Trym.prog w = .ok (.string ⟨acc.toArray⟩) w := by
  refine run_convert_bytes_back w 23 9 5 ⟨g, 0, none⟩ acc.length acc Trym.underlying23 Trym.underlying5 Trym.underlying9 ?_
  intro j hj
  have hadd : (⟨g, 0, none⟩ : Addr).add j = ⟨g, j, none⟩ := by unfold Addr.add; split <;> simp_all
  rw [hadd, h.cellAt j (by omega)]
  simp [bcells, hj]

/-- How many of the first k bytes are no marks. -/
def cnt (k : Nat) : Nat := ((List.range k).filter fun n => !markB n).length
theorem cnt_le (k : Nat) : cnt k ≤ k := by
  unfold cnt
  have := List.length_filter_le (fun n => !markB n) (List.range k)
  simpa using this
theorem cnt_yes (k : Nat) (h : markB k = false) : cnt (k + 1) = cnt k + 1 := by
  simp [cnt, List.range_succ, h]
theorem cnt_no (k : Nat) (h : markB k = true) : cnt (k + 1) = cnt k := by
  simp [cnt, List.range_succ, h]
theorem cnt_all : cnt 256 = 245 := by decide +kernel

end Go.Proofs.Qxb6616587aMods
