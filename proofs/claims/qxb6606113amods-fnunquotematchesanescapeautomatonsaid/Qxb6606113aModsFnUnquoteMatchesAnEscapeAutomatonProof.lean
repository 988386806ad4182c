/-
  'Rows.FnUnquoteMatchesAnEscapeAutomatonSaid' proved: both functions compute 'Plain.ans'. The frame is the guide's template at this function's number and types.
-/
import Derived.Test.Qxb6606113aModsRows
import Derived.Test.Qxb6606113aModsUnquote
import Derived.Test.Qxb6606113aModsDecode
import Derived.WalkKit
import Derived.ProofKit
import Derived.OpenShut
import Derived.ShutString
import Derived.ChangeOld
import Derived.Below
namespace Go.Proofs.Qxb6606113aMods.fnUnquoteMatchesAnEscapeAutomaton
open Go.ChangeShapes Go.WideShapes Go.ChangeAt Go.RowKit
open Go.ChangeMaps (open_string shut_string)
set_option linter.unusedVariables false      -- a walk need not use every 'w<i>' (that an integer argument fits its kind)

theorem own : ownKnob Trym.prog.godebug = none := by kernel_rfl

open Plain

theorem unquote_any (s : ByteArray) (hs : s.size ≤ 1048576) (w : World) :
    Calls Trym.prog 17 #[.string s] w fun e w' => e = .returned (resV (ans s.data.toList)) ∧ Below w.heap.size w w' := by
  by_cases h0 : 0 < s.size
  · by_cases hq : s[0].toNat = 34
    · exact unquote_open s hs h0 (by have := toNat_eq hq; simp [this]) _ (s_open s h0 hq).symm w
    · have hq' : (s[0] == 34) = false := by
        have := toNat_ne (n := 34) (by omega) hq
        simpa using this
      rw [s_shut s h0 hq]
      clear hq
      go_enter Trym.func17, Trym.ntmps17
      go_wp2_with (go_at_call 19; refine (prefix_some _ h0 _).mono ?_; rintro e w' ⟨rfl, rfl⟩)
      go_ret3
      exact ⟨rfl, Below.refl _ _⟩
  · have hz : s.size = 0 := by omega
    rw [s_none s hz]
    have HZ : Hid (s.size = 0) := hz
    clear hz h0
    go_enter Trym.func17, Trym.ntmps17
    go_wp2_with (go_at_call 19; refine (prefix_empty _ HZ.out _).mono ?_; rintro e w' ⟨rfl, rfl⟩)
    go_ret3
    exact ⟨rfl, Below.refl _ _⟩

theorem decode_any (s : ByteArray) (hs : s.size ≤ 1048576) (w : World) :
    Calls Trym.prog 15 #[.string s] w fun e w' => e = .returned (resV (ans s.data.toList)) ∧ Below w.heap.size w w' := by
  by_cases h0 : 0 < s.size
  · by_cases hq : s[0].toNat = 34
    · exact decode_open s hs h0 (by simp [hq]) _ (s_open s h0 hq).symm w
    · have hq' : ((s[0].toNat : Int) != 34) = true := bne_iff_ne.2 (by omega)
      have hz : ((s.size : Int) == 0) = false := beq_eq_false_iff_ne.2 (by omega)
      rw [s_shut s h0 hq]
      clear hq
      go_enter Trym.func15, Trym.ntmps15
      go_wp2
      go_ret3
      exact ⟨rfl, Below.refl _ _⟩
  · have hz : ((s.size : Int) == 0) = true := beq_iff_eq.2 (by omega)
    rw [s_none s (by omega)]
    clear h0
    go_enter Trym.func15, Trym.ntmps15
    go_wp2
    go_ret3
    exact ⟨rfl, Below.refl _ _⟩

/-- Of both functions, the three results written out. -/
theorem both_at (s : ByteArray) (hs : s.size ≤ 1048576) : ∃ (p r : ByteArray) (b : Bool),
    (∀ w, Calls Trym.prog 17 #[.string s] w fun e w' => e = .returned (.tuple #[.string p, .string r, .bool b]) ∧ Below w.heap.size w w') ∧
    (∀ w, Calls Trym.prog 15 #[.string s] w fun e w' => e = .returned (.tuple #[.string p, .string r, .bool b]) ∧ Below w.heap.size w w') := by
  have hu := unquote_any s hs
  have hd := decode_any s hs
  revert hu hd
  cases ans s.data.toList with
  | none => intro hu hd; exact ⟨_, _, _, hu, hd⟩
  | some x => intro hu hd; exact ⟨_, _, _, hu, hd⟩

theorem zz_at (s p r : ByteArray) (b : Bool) (w : World) (hu : Calls Trym.prog 17 #[.string s] w fun e w' => e = .returned (.tuple #[.string p, .string r, .bool b]) ∧ Below w.heap.size w w') :
    Calls Trym.prog 14 #[.string s] w fun e w' => e = .returned (.tuple #[.string p, .string r, .bool b]) ∧ Below w.heap.size w w' := by
  have HU : Hid (Calls Trym.prog 17 #[.string s] w fun e w' => e = .returned (.tuple #[.string p, .string r, .bool b]) ∧ Below w.heap.size w w') := hu
  clear hu
  go_enter Trym.func14, Trym.ntmps14
  go_wp2_with (go_at_call 17; refine HU.out.mono ?_; rintro e w1 ⟨rfl, hb1⟩)
  go_ret3
  exact ⟨rfl, hb1⟩

theorem walk (a0 : ByteArray) (w : World) :
    Calls Trym.prog 6 #[.string a0] w fun e w' => e = .returned (.bool true) ∧ Below w.heap.size w w' := by
  by_cases hs : a0.size ≤ 1048576
  · obtain ⟨p, r, b, hu, hd⟩ := both_at a0 hs
    have HU : Hid (∀ w, Calls Trym.prog 14 #[.string a0] w fun e w' => e = .returned (.tuple #[.string p, .string r, .bool b]) ∧ Below w.heap.size w w') := fun w => zz_at a0 p r b w (hu w)
    have HD : Hid (∀ w, Calls Trym.prog 15 #[.string a0] w fun e w' => e = .returned (.tuple #[.string p, .string r, .bool b]) ∧ Below w.heap.size w w') := hd
    clear hu hd
    go_enter Trym.func6, Trym.ntmps6
    go_wp2_with (first
      | (go_at_call 13; refine (bytes_yes _ hs _).mono ?_; rintro e w' ⟨rfl, rfl⟩)
      | (go_at_call 14; refine (HU.out _).mono ?_; rintro e w1 ⟨rfl, hb1⟩)
      | (go_at_call 15; refine (HD.out _).mono ?_; rintro e w2 ⟨rfl, hb2⟩))
    go_ret
    exact ⟨rfl, hb1.trans (hb2.mono hb1.size)⟩
  · go_enter Trym.func6, Trym.ntmps6
    go_wp2_with (go_at_call 13; refine (bytes_no _ (by omega) _).mono ?_; rintro e w' ⟨rfl, rfl⟩)
    go_ret
    exact ⟨rfl, Below.refl _ _⟩

/-! ### THE ROW's STEP: WRITTEN OUT: LEAVE IT -/
set_option maxRecDepth 100000 in
theorem lifted (os : Os) (started : os.Started) (H : Type) (enc : TypeId × Value → H) :
    ReturnsInHanded {} Trym.checked os 6 .any (Rows.fnUnquoteMatchesAnEscapeAutomatonSpec.pre6 enc Trym.prog Trym.f6 Rows.fnUnquoteMatchesAnEscapeAutomatonRow.domain false) (Rows.fnUnquoteMatchesAnEscapeAutomatonSpec.post enc Trym.prog Trym.f6 false true false false) := by
  refine returnsInHanded_of_change (C := Trym.checked) own started (by kernel_rfl) Trym.func6
    (ChangeSpec.witness6 (enc := enc) (C := Trym.checked) false ⟨#[], #[.string ByteArray.empty], []⟩ 8 (by kernel_rfl) (by kernel_rfl) (by kernel_rfl) (by kernel_rfl)) ?_
  intro W base args ds gs before hval0 hW hcnd _
  have hval : ∀ (j : Nat) t v, Trym.f6.params[j]? = some t → args[j]? = some v → Value.okWide Trym.prog W .any base t v := hval0
  have hW' := hW
  obtain ⟨p, q, hA0, hV, rfl, hfz, hnd⟩ := hW
  have hA : DataW.TrodAll enc Trym.prog W 0 (fun _ => true) true Trym.f6.params.toList args.toList ds p := hA0
  rw [Trym.params6] at hA hval
  obtain ⟨v0, vs0, d0, ds0, p0, q0, hargs, rfl, rfl, h0, r0⟩ := trodAll_cons hA
  obtain ⟨rfl, rfl, rfl⟩ := trodAll_nil r0
  obtain rfl : args = #[v0] := by cases args; simp_all
  obtain ⟨rfl, rfl⟩ := trodVars_none hV
  obtain ⟨a0, rfl, rfl, rfl, w0⟩ := open_string Trym.underlying9 (hval 0 9 v0 rfl rfl) h0
  clear hA0 hval0
  simp only [List.append_nil] at hW'
  refine (walk a0 W).mono fun e W' ⟨he, bel⟩ => ?_
  subst he
  exact ⟨_, rfl, _, _, _, [], _, [], hW', trodAll_mk1 (shut_bool Trym.underlying4 _), trodAll_cons_mk (shut_string Trym.underlying9 w0) trodAll_mk0, rfl, bel.frame _, fun h => by cases h⟩

theorem over : Rows.fnUnquoteMatchesAnEscapeAutomatonRow.holds Trym.pinned (OpenSpec.ofChange Rows.fnUnquoteMatchesAnEscapeAutomatonSpec) :=
  OpenClaim.holds_of_wide 6 Trym.f6 rfl rfl rfl rfl rfl rfl rfl ⟨rfl, rfl, rfl, rfl, rfl⟩ rfl rfl rfl rfl rfl (by kernel_rfl) Trym.func6 (by kernel_rfl)
    (of_decide_eq_true (by kernel_rfl)) (by unfold Func.isWrapper; first | (rw [if_pos (by decide +kernel)]; kernel_rfl) | (rw [if_neg (by decide +kernel)]; exact ⟨rfl, rfl⟩))
    (fun os started H enc _ => lifted os started H enc)

/-- THE STATEMENT -/
theorem proved : Rows.FnUnquoteMatchesAnEscapeAutomatonSaid :=
  over
end Go.Proofs.Qxb6606113aMods.fnUnquoteMatchesAnEscapeAutomaton
