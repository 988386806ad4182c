/-
  What both laws over tokenEnd share: ZZtokenEnd's contract, the copy of the text that each law makes first.
-/
import Derived.Test.Qxb6617940aModsToken
import Derived.Laws.CopyOwn
import Derived.Lib.SlBuf
import Derived.OpenShut
namespace Go.Proofs.Qxb6617940aMods
open Go.RowKit Plain

theorem Trym.info5 : (Trym.prog.info? 5).map (fun i => (i.zero, i.size, i.bytes)) = some (some (.int .u8 0), 1, 1) := by kernel_rfl

/-- tokenEnd, wherever the token begins. -/
theorem token_any (f : Nat → Int) (hf : ∀ i, 0 ≤ f i ∧ f i ≤ 255) (g n c start : Nat) (hn : n ≤ 2097152) (hnc : n ≤ c) (hst : start ≤ n) (w : World) (hc : ∀ i, i < n → w.cell? ⟨g, i, none⟩ = some (.int .u8 (f i))) :
    Calls Trym.prog 15 #[.slice (some ⟨g, 0, none⟩) n c, .int .i64 (start : Int)] w fun e w' => e = .returned (.int .i64 (tok f n start : Int)) ∧ w = w' := by
  by_cases he : start = n
  · rw [tok_end f n start he]
    subst he
    exact token_end _ start c w
  have hlt : start < n := by omega
  by_cases hd : delimB (f start) = true
  · rw [tok_delim f n start hlt hd]
    exact token_delim g n c start (f start) hn hlt w hd (hc start hlt)
  by_cases hq : f start = 34
  · rw [tok_str f n start hlt hq]
    exact token_str f hf g n c start hn hnc hlt w hq hc
  · rw [tok_bare f n start hlt (by simpa using hd) hq]
    exact token_bare f hf g n c start hn hlt w (by simpa using hd) hq hc

/-- ZZtokenEnd hands it on. -/
theorem zz_of (v : Value) (s r : Int) (w : World) (h : Calls Trym.prog 15 #[v, .int .i64 s] w fun e w' => e = .returned (.int .i64 r) ∧ w = w') :
    Calls Trym.prog 8 #[v, .int .i64 s] w fun e w' => e = .returned (.int .i64 r) ∧ w = w' := by
  have H : Hid (Calls Trym.prog 15 #[v, .int .i64 s] w fun e w' => e = .returned (.int .i64 r) ∧ w = w') := h
  clear h
  go_enter Trym.func8, Trym.ntmps8
  go_wp2_with (go_at_call 15; refine H.out.mono ?_; rintro e w' ⟨rfl, rfl⟩)
  go_ret
  exact ⟨rfl, rfl⟩

theorem zz_any (f : Nat → Int) (hf : ∀ i, 0 ≤ f i ∧ f i ≤ 255) (g n c start : Nat) (hn : n ≤ 2097152) (hnc : n ≤ c) (hst : start ≤ n) (w : World) (hc : ∀ i, i < n → w.cell? ⟨g, i, none⟩ = some (.int .u8 (f i))) :
    Calls Trym.prog 8 #[.slice (some ⟨g, 0, none⟩) n c, .int .i64 (start : Int)] w fun e w' => e = .returned (.int .i64 (tok f n start : Int)) ∧ w = w' :=
  zz_of _ _ _ w (token_any f hf g n c start hn hnc hst w hc)

theorem zz_nil (w : World) : Calls Trym.prog 8 #[.slice none 0 0, .int .i64 0] w fun e w' => e = .returned (.int .i64 0) ∧ w = w' :=
  zz_of _ _ _ w (token_end none 0 0 w)

/-! ### The copy -/
theorem made_block {w1 : World} {base B n : Nat} (h : w1.ownsRow base 5 1 (.slice (some ⟨B, 0, none⟩) n n) n (madeCells #[.int .u8 0] n).toList) :
    w1.heap[B]? = some (.cells (List.replicate n (.int .u8 0)).toArray 5 (0, 0)) := by
  rcases h.2 with ⟨hv, _⟩ | ⟨g, cap, cur, hv, _, hh, _, _, hsz, htake⟩
  · simp at hv
  · simp at hv
    obtain ⟨rfl, rfl⟩ := hv
    rw [hh]
    have e : cur.toList = List.replicate n (.int .u8 0) := by
      rw [toList_madeCells_one] at htake
      rw [← htake, List.take_of_length_le (by simp [hsz])]
    rw [← e]

theorem own_of_block {w2 : World} {base B n : Nat} {xs : List Value} (hb : w2.heap[B]? = some (.cells xs.toArray 5 (0, 0))) (hn : xs.length = n) (hm : n ≤ maxLen) (hB : base ≤ B) :
    w2.ownsRow base 5 1 (.slice (some ⟨B, 0, none⟩) n n) n xs :=
  ⟨by omega, .inr ⟨B, n, xs.toArray, rfl, hB, hb, Nat.le_refl _, hm, by simp; omega, by subst hn; simp⟩⟩

/-- The bytes as cells. -/
def icells (l : List Int) : List Value := l.map (Value.int .u8)
theorem icells_length (l : List Int) : (icells l).length = l.length := by simp [icells]
theorem icells_at (l : List Int) (j : Nat) (hj : j < l.length) : (icells l)[j]? = some (.int .u8 (l.getD j 0)) := by
  simp [icells, List.getD, hj]

theorem copy_src (w w1 : World) (x : Addr) (n c0 : Nat) (z : List Int) (hz : n ≤ z.length) (hcell : ∀ i, i < z.length → w.cell? (x.add i) = some (.int .u8 (z.getD i 0))) (hn : n ≤ 1048576)
    (hown : w1.ownsRow w.heap.size 5 1 (.slice (some ⟨w.heap.size, 0, none⟩) n n) n (madeCells #[.int .u8 0] n).toList) (hbel : Below w.heap.size w w1) :
    ∃ w2, (Builtin.copy_ #[22, 22] 3 #[.slice (some ⟨w.heap.size, 0, none⟩) n n, .slice (some x) n c0]).run Trym.prog w1 = .ok (goInt n) w2 ∧ Below w.heap.size w w2 ∧
      w2.ownsRow w.heap.size 5 1 (.slice (some ⟨w.heap.size, 0, none⟩) n n) n (icells (z.take n)) := by
  have hblk := made_block hown
  have hlen : (icells (z.take n)).length = n := by rw [icells_length]; simp; omega
  have hr := run_copy_row (P := Trym.prog) w1 22 22 3 5 w.heap.size 0 n n x n c0 _ 5 (icells (z.take n)) Trym.underlying22 (by kernel_rfl) hblk (by rw [hlen]; simp) (by
    intro j v hv
    have hj : j < (z.take n).length := by have := (List.getElem?_eq_some_iff.1 hv).1; rwa [icells_length] at this
    have hj' : j < n := by simp at hj; omega
    rw [icells_at _ j hj] at hv
    obtain rfl := Option.some.inj hv
    have h := hcell j (by omega)
    have hb := World.block_lt_of_cell? w _ h
    rw [hbel.cell hb, h]
    have e : (z.take n).getD j 0 = z.getD j 0 := by simp [List.getD, hj']
    rw [e]) (by rw [hlen]; simp) (ints_oneCell .u8 _)
  rw [hlen] at hr
  refine ⟨_, hr, below_setRow hbel (Nat.le_refl _) _, ?_⟩
  have e : (List.replicate n (Value.int IntKind.u8 0)).toArray.toList.take 0 ++ icells (z.take n) ++ (List.replicate n (Value.int IntKind.u8 0)).toArray.toList.drop (0 + n) = icells (z.take n) := by
    simp
  rw [e]
  exact own_of_block (setRow_heap w1 w.heap.size _ _ 5 _ hblk) hlen (by unfold maxLen; omega) (Nat.le_refl _)

/-- The cells that a row of bytes owns. -/
theorem own_cells {w2 : World} {base g n c : Nat} {l : List Int} (h : w2.ownsRow base 5 1 (.slice (some ⟨g, 0, none⟩) n c) n (icells l)) : ∀ i, i < n → w2.cell? ⟨g, i, none⟩ = some (.int .u8 (l.getD i 0)) := by
  intro i hi
  have hl := h.1
  rw [icells_length] at hl
  rw [h.cellAt i (by omega), icells_at l i (by omega)]

/-- Each byte of a row lies between 0 and 255. -/
theorem bytes_range (l : List Int) (h : ∀ n ∈ l, (Lit.int .u8 n).wf = true) : ∀ i, 0 ≤ l.getD i 0 ∧ l.getD i 0 ≤ 255 := by
  intro i
  have := range_u8 h i
  rwa [List.getD_eq_getElem?_getD]

end Go.Proofs.Qxb6617940aMods
