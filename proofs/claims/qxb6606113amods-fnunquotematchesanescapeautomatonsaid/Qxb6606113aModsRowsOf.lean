/-
  What both walks share: the row of bytes that the call gathers, its reading as a string, the steps of the decoder at the bytes of a string.
-/
import Derived.Test.Qxb6606113aModsSmall
import Derived.Deep.AppendLies
import Derived.Laws.IdiomStrings
import Derived.Lib.BufferRead
namespace Go.Proofs.Qxb6606113aMods
open Go.RowKit Plain

theorem Trym.info5 : (Trym.prog.info? 5).map (fun i => (i.zero, i.size, i.bytes)) = some (some (.int .u8 0), 1, 1) := by kernel_rfl

/-- The bytes as cells. -/
def bcells (l : List UInt8) : List Value := l.map fun b => .int .u8 (b.toNat : Int)
theorem bcells_snoc (l : List UInt8) (c : UInt8) : bcells l ++ [.int .u8 (c.toNat : Int)] = bcells (l ++ [c]) := by simp [bcells]
theorem bcells_length (l : List UInt8) : (bcells l).length = l.length := by simp [bcells]

/-- What the two functions hand back. -/
def resV : Option (List UInt8 × List UInt8) → Value
  | none => .tuple #[.string ⟨#[]⟩, .string ⟨#[]⟩, .bool false]
  | some (p, r) => .tuple #[.string ⟨p.toArray⟩, .string ⟨r.toArray⟩, .bool true]

/-- The gathered bytes read as a string, in whatever later world that has the same blocks. -/
theorem row_string {w : World} {base : Nat} {v : Value} {acc : List UInt8} (h : w.ownsRow base 5 1 v acc.length (bcells acc)) (W : World) (hW : W.heap = w.heap) :
    (convert 31 9 v).run Trym.prog W = .ok (.string ⟨acc.toArray⟩) W := by
  rcases h.2 with ⟨hv, hn⟩ | ⟨g, cap, cur, hv, hg, hh, hcap, _, hsz, htake⟩
  · have : acc = [] := List.eq_nil_of_length_eq_zero hn
    subst this
    subst hv
    rw [Lib.run_convert_nil_bytes W 31 9 5 0 Trym.underlying31 Trym.underlying5 Trym.underlying9]
  · subst hv
    refine run_convert_bytes_back W 31 9 5 ⟨g, 0, none⟩ cap acc Trym.underlying31 Trym.underlying5 Trym.underlying9 ?_
    intro j hj
    have hb : W.heap[g]? = some (.cells cur 5 (0, 0)) := by rw [hW]; exact hh
    have hadd : (⟨g, 0, none⟩ : Addr).add j = ⟨g, j, none⟩ := by unfold Addr.add; split <;> simp_all
    rw [hadd, cell_of_row W g j cur 5 (0, 0) hb]
    have e : cur.toList[j]? = (bcells acc)[j]? := by
      rw [← htake, List.getElem?_take]; simp; omega
    have e2 : cur[j]? = cur.toList[j]? := by simp
    rw [e2, e]
    simp [bcells, hj]

theorem from_string (s : ByteArray) (a : Nat) : s.extract a s.size = ⟨(s.data.toList.drop a).toArray⟩ := by
  obtain ⟨⟨l⟩⟩ := s
  rw [ByteArray.extract_mk]
  congr 1
  have : (ByteArray.mk l.toArray).size = l.length := rfl
  rw [this, List.take_of_length_le (by simp)]

/-- One more byte gathered. -/
theorem grow_step {w wr w1 : World} {v v' : Value} {acc : List UInt8} {o : Obj} (c : UInt8) (hown : wr.ownsRow w.heap.size 5 1 v acc.length (bcells acc)) (hbel : Below w.heap.size w wr)
    (hown' : w1.ownsRow w.heap.size 5 1 v' (acc.length + 1) (bcells acc ++ [.int .u8 (c.toNat : Int)])) (hgrow : (wr.alloc o).grownBy w1 v.ownBlock) :
    w1.ownsRow w.heap.size 5 1 v' (acc ++ [c]).length (bcells (acc ++ [c])) ∧ Below w.heap.size w w1 := by
  rw [bcells_snoc] at hown'
  exact ⟨by simpa using hown', (hbel.alloc hbel.size _).grown hgrow (by have := hbel.size; simp; omega) (fun k hk => (hown.lt k hk).1)⟩
theorem one_byte (c : Int) : ∀ u ∈ [Value.int .u8 c], u.oneCell' = true := by
  intro u hu; simp at hu; subst hu; rfl

theorem grown_undrew {w w1 : World} {row : Option Nat} (h : w.drew.grownBy w1 row) : w.grownBy w1 row := ⟨h.os, h.tape, h.output, h.size, h.block⟩

/-- The three octal digits as one byte. -/
theorem octal_byte (a b c : Nat) (a1 : 48 ≤ a) (a2 : a ≤ 51) (b1 : 48 ≤ b) (b2 : b ≤ 55) (c1 : 48 ≤ c) (c2 : c ≤ 55) :
    bits BinOp.or IntKind.u8 (bits BinOp.or IntKind.u8 (IntKind.u8.wrap (IntKind.u8.wrap ((a : Int) - 48) * 64)) (IntKind.u8.wrap (IntKind.u8.wrap ((b : Int) - 48) * 8))) (IntKind.u8.wrap ((c : Int) - 48))
      = ((UInt8.ofNat (((a - 48) * 8 + (b - 48)) * 8 + (c - 48))).toNat : Int) := by
  have key : ∀ x, x < 4 → ∀ y, y < 8 → ∀ z, z < 8 → bits BinOp.or IntKind.u8 (bits BinOp.or IntKind.u8 (IntKind.u8.wrap (IntKind.u8.wrap (((x + 48 : Nat) : Int) - 48) * 64)) (IntKind.u8.wrap (IntKind.u8.wrap (((y + 48 : Nat) : Int) - 48) * 8))) (IntKind.u8.wrap (((z + 48 : Nat) : Int) - 48))
      = ((UInt8.ofNat ((x * 8 + y) * 8 + z)).toNat : Int) := by decide +kernel
  have := key (a - 48) (by omega) (b - 48) (by omega) (c - 48) (by omega)
  rwa [show a - 48 + 48 = a by omega, show b - 48 + 48 = b by omega, show c - 48 + 48 = c by omega] at this

section steps
variable (s : ByteArray) (k v : Nat) (acc : List UInt8)
theorem s_end (st : Nat) (h : s.size ≤ k) : dec (s.data.toList.drop k) st v acc = none := dec_end s.data.toList k v acc st h
theorem s_quote (h : k < s.size) (hc : s[k].toNat = 34) : dec (s.data.toList.drop k) 0 v acc = some (acc, s.data.toList.drop (k + 1)) := dec_quote s.data.toList k v acc h hc
theorem s_plain (h : k < s.size) (h1 : s[k].toNat ≠ 34) (h2 : s[k].toNat ≠ 92) : dec (s.data.toList.drop k) 0 v acc = dec (s.data.toList.drop (k + 1)) 0 v (acc ++ [s[k]]) := dec_plain s.data.toList k v acc h h1 h2
theorem s_back (h : k < s.size) (h1 : s[k].toNat = 92) : dec (s.data.toList.drop k) 0 v acc = dec (s.data.toList.drop (k + 1)) 1 v acc := dec_back s.data.toList k v acc h h1
theorem s_letter (h : k < s.size) {j : Nat} (hj : letJ s[k] = some j) : dec (s.data.toList.drop k) 1 v acc = dec (s.data.toList.drop (k + 1)) 0 v (acc ++ [escB.getD j 0]) := dec_letter s.data.toList k v acc h hj
theorem s_digit (h : k < s.size) (hj : letJ s[k] = none) (h1 : 48 ≤ s[k].toNat) (h2 : s[k].toNat ≤ 51) : dec (s.data.toList.drop k) 1 v acc = dec (s.data.toList.drop (k + 1)) 2 (s[k].toNat - 48) acc := dec_digit s.data.toList k v acc h hj h1 h2
theorem s_nodigit (h : k < s.size) (hj : letJ s[k] = none) (h1 : s[k].toNat < 48 ∨ 51 < s[k].toNat) : dec (s.data.toList.drop k) 1 v acc = none := dec_nodigit s.data.toList k v acc h hj h1
theorem s_nooct (st : Nat) (hst : 2 ≤ st) (h : k < s.size) (h1 : s[k].toNat < 48 ∨ 55 < s[k].toNat) : dec (s.data.toList.drop k) st v acc = none := dec_nooct s.data.toList k v acc st hst h h1
theorem s_two (h : k < s.size) (h1 : 48 ≤ s[k].toNat) (h2 : s[k].toNat ≤ 55) : dec (s.data.toList.drop k) 2 v acc = dec (s.data.toList.drop (k + 1)) 3 (v * 8 + (s[k].toNat - 48)) acc := dec_two s.data.toList k v acc h h1 h2
theorem s_three (h : k < s.size) (h1 : 48 ≤ s[k].toNat) (h2 : s[k].toNat ≤ 55) : dec (s.data.toList.drop k) 3 v acc = dec (s.data.toList.drop (k + 1)) 0 (v * 8 + (s[k].toNat - 48)) (acc ++ [UInt8.ofNat (v * 8 + (s[k].toNat - 48))]) := dec_three s.data.toList k v acc h h1 h2
theorem s_octal (h : k + 3 < s.size) (h0 : s[k].toNat = 92) (hj : letJ s[k + 1] = none) (a1 : 48 ≤ s[k + 1].toNat) (a2 : s[k + 1].toNat ≤ 51)
    (b1 : 48 ≤ s[k + 2].toNat) (b2 : s[k + 2].toNat ≤ 55) (c1 : 48 ≤ s[k + 3].toNat) (c2 : s[k + 3].toNat ≤ 55) :
    ∃ u, dec (s.data.toList.drop k) 0 v acc = dec (s.data.toList.drop (k + 4)) 0 u (acc ++ [UInt8.ofNat (((s[k + 1].toNat - 48) * 8 + (s[k + 2].toNat - 48)) * 8 + (s[k + 3].toNat - 48))]) :=
  dec_octal s.data.toList k v acc h h0 hj a1 a2 b1 b2 c1 c2
theorem s_bad (h : k + 1 < s.size) (h0 : s[k].toNat = 92) (hj : letJ s[k + 1] = none)
    (hb : s.size ≤ k + 3 ∨ s[k + 1].toNat < 48 ∨ 51 < s[k + 1].toNat ∨ (∃ g : k + 2 < s.size, s[k + 2].toNat < 48 ∨ 55 < s[k + 2].toNat) ∨ (∃ g : k + 3 < s.size, s[k + 3].toNat < 48 ∨ 55 < s[k + 3].toNat)) :
    dec (s.data.toList.drop k) 0 v acc = none := dec_bad s.data.toList k v acc h h0 hj hb
end steps
theorem s_open (s : ByteArray) (h : 0 < s.size) (h0 : s[0].toNat = 34) : ans s.data.toList = dec (s.data.toList.drop 1) 0 0 [] := ans_open s.data.toList h h0
theorem s_shut (s : ByteArray) (h : 0 < s.size) (h0 : s[0].toNat ≠ 34) : ans s.data.toList = none := ans_shut s.data.toList h h0
theorem s_none (s : ByteArray) (h : s.size = 0) : ans s.data.toList = none := by
  have : s.data.toList = [] := List.eq_nil_of_length_eq_zero h
  rw [this]; rfl

end Go.Proofs.Qxb6606113aMods
