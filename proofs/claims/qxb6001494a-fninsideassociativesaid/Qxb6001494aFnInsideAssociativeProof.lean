/-
  Seat b6001494a. 'Rows.FnInsideAssociativeSaid'. The frame: the seat's shell (proof-skeleton.mjs), its end turned from 'Grown' to 'Below'.
-/
import Derived.Test.Qxb6001494aRows
import Derived.Test.Qxb6001494aInside
import Derived.WalkKit
import Derived.ProofKit
import Derived.OpenShut
import Derived.ShutString
import Derived.Below
namespace Go.Proofs.Qxb6001494a.fnInsideAssociative
open Go.ChangeShapes Go.WideShapes Go.ChangeAt Go.RowKit
open Go.ChangeMaps (open_string shut_string)
set_option linter.unusedVariables false      -- a walk need not use every 'w<i>' (that an integer argument fits its kind)

theorem own : ownKnob Try.prog.godebug = none := by kernel_rfl

/-! ### THE WALK -/
theorem bytes_any (a b c : ByteArray) (w : World) (ha : a.size ≤ maxLen) (hb : b.size ≤ maxLen) (hc : c.size ≤ maxLen) :
    Calls Try.prog 6 #[.string a, .string b, .string c] w fun e w' => RetBool e ∧ w = w' := by
  unfold maxLen at ha hb hc
  go_enter Try.func6, Try.ntmps6
  go_wp2
  all_goals (go_ret; exact ⟨⟨_, rfl⟩, rfl⟩)

theorem walk (a b c : ByteArray) (w0 : a.size ≤ maxLen) (w1 : b.size ≤ maxLen) (w2 : c.size ≤ maxLen) (w : World) :
    Calls Try.prog 3 #[.string a, .string b, .string c] w fun e w' => e = .returned (.bool true) ∧ Below w.heap.size w w' := by
  have h6 := bytes_any a b c w w0 w1 w2
  unfold maxLen at w0 w1 w2
  by_cases h1 : 1048576 < a.size
  · go_enter Try.func3, Try.ntmps3
    go_wp2_with (first | (go_at_call 6; refine h6.mono ?_; rintro e w' ⟨⟨bb, rfl⟩, rfl⟩; clear h6))
    all_goals (go_ret; exact ⟨rfl, Below.refl _ _⟩)
  by_cases h2 : 1048576 < b.size
  · go_enter Try.func3, Try.ntmps3
    go_wp2_with (first | (go_at_call 6; refine h6.mono ?_; rintro e w' ⟨⟨bb, rfl⟩, rfl⟩; clear h6))
    all_goals (go_ret; exact ⟨rfl, Below.refl _ _⟩)
  by_cases h3 : 1048576 < c.size
  · go_enter Try.func3, Try.ntmps3
    go_wp2_with (first | (go_at_call 6; refine h6.mono ?_; rintro e w' ⟨⟨bb, rfl⟩, rfl⟩; clear h6))
    all_goals (go_ret; exact ⟨rfl, Below.refl _ _⟩)
  by_cases h4 : 1048576 < a.size + b.size + c.size
  · go_enter Try.func3, Try.ntmps3
    go_wp2_with (first | (go_at_call 6; refine h6.mono ?_; rintro e w' ⟨⟨bb, rfl⟩, rfl⟩; clear h6))
    all_goals (go_ret; exact ⟨rfl, Below.refl _ _⟩)
  have z1 := ins_size a b
  have z2 := ins_size b c
  have hL : ((ins (ins a b) c).toList == (ins a (ins b c)).toList) = (!b.toList.isEmpty || a.toList.isEmpty) := by
    rw [ins_list, ins_list, ins_list, ins_list]; exact insL_assoc _ _ _
  have c1 := fun w => zzinside_any a b w (by omega) (by omega)
  have c2 := fun w => zzinside_any (ins a b) c w (by omega) (by omega)
  have c3 := fun w => zzinside_any b c w (by omega) (by omega)
  have c4 := fun w => zzinside_any a (ins b c) w (by omega) (by omega)
  clear z1 z2
  generalize ins (ins a b) c = L at *
  generalize ins a (ins b c) = R at *
  generalize ins a b = ab at *
  generalize ins b c = bc at *
  cases hbe : b.toList.isEmpty with
  | true =>
    rw [hbe] at hL
    cases hae : a.toList.isEmpty with
    | true =>
      rw [hae] at hL
      go_enter Try.func3, Try.ntmps3
      go_wp2_with (first | (go_at_call 6; refine h6.mono ?_; rintro e w' ⟨⟨bb, rfl⟩, rfl⟩; clear h6) | (go_at_call 7; first | (refine (c1 _).mono ?_; rintro e w' ⟨rfl, rfl⟩; clear c1) | (refine (c2 _).mono ?_; rintro e w' ⟨rfl, rfl⟩; clear c2) | (refine (c3 _).mono ?_; rintro e w' ⟨rfl, rfl⟩; clear c3) | (refine (c4 _).mono ?_; rintro e w' ⟨rfl, rfl⟩; clear c4)))
      all_goals (go_ret; exact ⟨rfl, Below.refl _ _⟩)
    | false =>
      rw [hae] at hL
      go_enter Try.func3, Try.ntmps3
      go_wp2_with (first | (go_at_call 6; refine h6.mono ?_; rintro e w' ⟨⟨bb, rfl⟩, rfl⟩; clear h6) | (go_at_call 7; first | (refine (c1 _).mono ?_; rintro e w' ⟨rfl, rfl⟩; clear c1) | (refine (c2 _).mono ?_; rintro e w' ⟨rfl, rfl⟩; clear c2) | (refine (c3 _).mono ?_; rintro e w' ⟨rfl, rfl⟩; clear c3) | (refine (c4 _).mono ?_; rintro e w' ⟨rfl, rfl⟩; clear c4)))
      all_goals (go_ret; exact ⟨rfl, Below.refl _ _⟩)
  | false =>
    rw [hbe] at hL
    go_enter Try.func3, Try.ntmps3
    go_wp2_with (first | (go_at_call 6; refine h6.mono ?_; rintro e w' ⟨⟨bb, rfl⟩, rfl⟩; clear h6) | (go_at_call 7; first | (refine (c1 _).mono ?_; rintro e w' ⟨rfl, rfl⟩; clear c1) | (refine (c2 _).mono ?_; rintro e w' ⟨rfl, rfl⟩; clear c2) | (refine (c3 _).mono ?_; rintro e w' ⟨rfl, rfl⟩; clear c3) | (refine (c4 _).mono ?_; rintro e w' ⟨rfl, rfl⟩; clear c4)))
    all_goals (go_ret; exact ⟨rfl, Below.refl _ _⟩)

/-! ### THE ROW's STEP: WRITTEN OUT: LEAVE IT -/
set_option maxRecDepth 100000 in
theorem lifted (os : Os) (started : os.Started) (H : Type) (enc : TypeId × Value → H) :
    ReturnsInHanded {} Try.checked os 3 .any (Rows.fnInsideAssociativeSpec.pre6 enc Try.prog Try.f3 Rows.fnInsideAssociativeRow.domain false) (Rows.fnInsideAssociativeSpec.post enc Try.prog Try.f3 false true false false) := by
  refine returnsInHanded_of_change (C := Try.checked) own started (by kernel_rfl) Try.func3
    (ChangeSpec.witness6 (enc := enc) (C := Try.checked) false ⟨#[], #[.string ByteArray.empty, .string ByteArray.empty, .string ByteArray.empty], []⟩ 8 (by kernel_rfl) (by kernel_rfl) (by kernel_rfl) (by kernel_rfl)) ?_
  intro W base args ds gs before hval0 hW hcnd _
  have hval : ∀ (j : Nat) t v, Try.f3.params[j]? = some t → args[j]? = some v → Value.okWide Try.prog W .any base t v := hval0
  have hW' := hW
  obtain ⟨p, q, hA0, hV, rfl, hfz, hnd⟩ := hW
  have hA : DataW.TrodAll enc Try.prog W 0 (fun _ => true) true Try.f3.params.toList args.toList ds p := hA0
  rw [Try.params3] at hA hval
  obtain ⟨v0, vs0, d0, ds0, p0, q0, hargs, rfl, rfl, h0, r0⟩ := trodAll_cons hA
  obtain ⟨v1, vs1, d1, ds1, p1, q1, rfl, rfl, rfl, h1, r1⟩ := trodAll_cons r0
  obtain ⟨v2, vs2, d2, ds2, p2, q2, rfl, rfl, rfl, h2, r2⟩ := trodAll_cons r1
  obtain ⟨rfl, rfl, rfl⟩ := trodAll_nil r2
  obtain rfl : args = #[v0, v1, v2] := by cases args; simp_all
  obtain ⟨rfl, rfl⟩ := trodVars_none hV
  obtain ⟨a0, rfl, rfl, rfl, w0⟩ := open_string Try.underlying9 (hval 0 9 v0 rfl rfl) h0
  obtain ⟨a1, rfl, rfl, rfl, w1⟩ := open_string Try.underlying9 (hval 1 9 v1 rfl rfl) h1
  obtain ⟨a2, rfl, rfl, rfl, w2⟩ := open_string Try.underlying9 (hval 2 9 v2 rfl rfl) h2
  clear hA0 hval0
  refine (walk a0 a1 a2 w0 w1 w2 W).mono fun e W' ⟨he, bel⟩ => ?_
  subst he
  exact ⟨_, rfl, _, _, _, [], _, [], hW', trodAll_mk1 (shut_bool Try.underlying4 _), (trodAll_cons_mk (shut_string Try.underlying9 w0) (trodAll_cons_mk (shut_string Try.underlying9 w1) (trodAll_cons_mk (shut_string Try.underlying9 w2) trodAll_mk0))), rfl, bel.frame _, fun h => by cases h⟩

theorem over : Rows.fnInsideAssociativeRow.holds Try.pinned (OpenSpec.ofChange Rows.fnInsideAssociativeSpec) :=
  OpenClaim.holds_of_wide 3 Try.f3 rfl rfl rfl rfl rfl rfl rfl ⟨rfl, rfl, rfl, rfl, rfl⟩ rfl rfl rfl rfl rfl (by kernel_rfl) Try.func3 (by kernel_rfl)
    (of_decide_eq_true (by kernel_rfl)) (by unfold Func.isWrapper; first | (rw [if_pos (by decide +kernel)]; kernel_rfl) | (rw [if_neg (by decide +kernel)]; exact ⟨rfl, rfl⟩))
    (fun os started H enc _ => lifted os started H enc)

/-- ████ THE STATEMENT ████ -/
theorem proved : Rows.FnInsideAssociativeSaid :=
  over
end Go.Proofs.Qxb6001494a.fnInsideAssociative
