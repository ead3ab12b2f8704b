/-
  Seat b6001494a. 'Rows.FnInsideSplitAtLastDotSaid'. The frame: the seat's shell (proof-skeleton.mjs), its end turned from 'Grown' to 'Below'.
-/
import Derived.Test.Qxb6001494aRows
import Derived.Test.Qxb6001494aInside
import Derived.Test.Qxb6001494aSplit
import Derived.WalkKit
import Derived.ProofKit
import Derived.OpenShut
import Derived.ShutString
import Derived.Below
namespace Go.Proofs.Qxb6001494a.fnInsideSplitAtLastDot
open Go.ChangeShapes Go.WideShapes Go.ChangeAt Go.RowKit
open Go.ChangeMaps (open_string shut_string)
set_option linter.unusedVariables false      -- a walk need not use every 'w<i>' (that an integer argument fits its kind)

theorem own : ownKnob Try.prog.godebug = none := by kernel_rfl

/-! ### THE WALK -/
theorem bytes_any (k n : ByteArray) (w : World) (ha : k.size ≤ maxLen) (hb : n.size ≤ maxLen) :
    Calls Try.prog 9 #[.string k, .string n] w fun e w' => RetBool e ∧ w = w' := by
  unfold maxLen at ha hb
  go_enter Try.func9, Try.ntmps9
  go_wp2
  all_goals (go_ret; exact ⟨⟨_, rfl⟩, rfl⟩)

theorem same_list (s : ByteArray) : (s.toList == s.toList) = true := by simp

set_option maxHeartbeats 4000000 in
theorem walk (k n : ByteArray) (w0 : k.size ≤ maxLen) (w1 : n.size ≤ maxLen) (w : World) :
    Calls Try.prog 5 #[.string k, .string n] w fun e w' => e = .returned (.bool true) ∧ Below w.heap.size w w' := by
  have h6 := bytes_any k n w w0 w1
  unfold maxLen at w0 w1
  by_cases h1 : 1048576 < k.size
  · go_enter Try.func5, Try.ntmps5
    go_wp2_with (first | (go_at_call 9; refine h6.mono ?_; rintro e w' ⟨⟨bb, rfl⟩, rfl⟩; clear h6))
    all_goals (go_ret; exact ⟨rfl, Below.refl _ _⟩)
  by_cases h2 : 1048576 < n.size
  · go_enter Try.func5, Try.ntmps5
    go_wp2_with (first | (go_at_call 9; refine h6.mono ?_; rintro e w' ⟨⟨bb, rfl⟩, rfl⟩; clear h6))
    all_goals (go_ret; exact ⟨rfl, Below.refl _ _⟩)
  by_cases h3 : 1048576 < k.size + n.size
  · go_enter Try.func5, Try.ntmps5
    go_wp2_with (first | (go_at_call 9; refine h6.mono ?_; rintro e w' ⟨⟨bb, rfl⟩, rfl⟩; clear h6))
    all_goals (go_ret; exact ⟨rfl, Below.refl _ _⟩)
  have c10 := hasDot_any n w (by omega)
  have c7 := zzinside_any k n w (by omega) (by omega)
  cases hke : k.toList.isEmpty with
  | true =>
    have hi : ins k n = n := by simp [ins, hke]
    rw [hi] at c7
    have c11 := fun hn => split_none n w (by omega) hn
    clear hi
    go_enter Try.func5, Try.ntmps5
    go_wp2_with (first
      | (go_at_call 9; refine h6.mono ?_; rintro e w' ⟨⟨bb, rfl⟩, rfl⟩; clear h6)
      | (go_at_call 10; refine c10.mono ?_; rintro e w' ⟨rfl | ⟨rfl, hno⟩, rfl⟩)
      | (go_at_call 7; refine c7.mono ?_; rintro e w' ⟨rfl, rfl⟩)
      | (go_at_call 11; refine (c11 hno).mono ?_; rintro e w' ⟨rfl, rfl⟩))
    all_goals (go_ret; exact ⟨rfl, Below.refl _ _⟩)
  | false =>
    have hi : ins k n = k ++ ⟨#[46]⟩ ++ n := by simp [ins, hke]
    rw [hi] at c7
    have c11 := fun hn => split_dot k n w (by omega) (by omega) hn
    clear hi
    generalize k ++ ⟨#[46]⟩ ++ n = s at *
    go_enter Try.func5, Try.ntmps5
    go_wp2_with (first
      | (go_at_call 9; refine h6.mono ?_; rintro e w' ⟨⟨bb, rfl⟩, rfl⟩; clear h6)
      | (go_at_call 10; refine c10.mono ?_; rintro e w' ⟨rfl | ⟨rfl, hno⟩, rfl⟩)
      | (go_at_call 7; refine c7.mono ?_; rintro e w' ⟨rfl, rfl⟩)
      | (go_at_call 11; refine (c11 hno).mono ?_; rintro e w' ⟨rfl, hb⟩))
    all_goals (go_ret; first | exact ⟨rfl, Below.refl _ _⟩ | exact ⟨rfl, hb⟩)

/-! ### THE ROW's STEP: WRITTEN OUT: LEAVE IT -/
set_option maxRecDepth 100000 in
theorem lifted (os : Os) (started : os.Started) (H : Type) (enc : TypeId × Value → H) :
    ReturnsInHanded {} Try.checked os 5 .any (Rows.fnInsideSplitAtLastDotSpec.pre6 enc Try.prog Try.f5 Rows.fnInsideSplitAtLastDotRow.domain false) (Rows.fnInsideSplitAtLastDotSpec.post enc Try.prog Try.f5 false true false false) := by
  refine returnsInHanded_of_change (C := Try.checked) own started (by kernel_rfl) Try.func5
    (ChangeSpec.witness6 (enc := enc) (C := Try.checked) false ⟨#[], #[.string ByteArray.empty, .string ByteArray.empty], []⟩ 8 (by kernel_rfl) (by kernel_rfl) (by kernel_rfl) (by kernel_rfl)) ?_
  intro W base args ds gs before hval0 hW hcnd _
  have hval : ∀ (j : Nat) t v, Try.f5.params[j]? = some t → args[j]? = some v → Value.okWide Try.prog W .any base t v := hval0
  have hW' := hW
  obtain ⟨p, q, hA0, hV, rfl, hfz, hnd⟩ := hW
  have hA : DataW.TrodAll enc Try.prog W 0 (fun _ => true) true Try.f5.params.toList args.toList ds p := hA0
  rw [Try.params5] at hA hval
  obtain ⟨v0, vs0, d0, ds0, p0, q0, hargs, rfl, rfl, h0, r0⟩ := trodAll_cons hA
  obtain ⟨v1, vs1, d1, ds1, p1, q1, rfl, rfl, rfl, h1, r1⟩ := trodAll_cons r0
  obtain ⟨rfl, rfl, rfl⟩ := trodAll_nil r1
  obtain rfl : args = #[v0, v1] := by cases args; simp_all
  obtain ⟨rfl, rfl⟩ := trodVars_none hV
  obtain ⟨a0, rfl, rfl, rfl, w0⟩ := open_string Try.underlying9 (hval 0 9 v0 rfl rfl) h0
  obtain ⟨a1, rfl, rfl, rfl, w1⟩ := open_string Try.underlying9 (hval 1 9 v1 rfl rfl) h1
  clear hA0 hval0
  refine (walk a0 a1 w0 w1 W).mono fun e W' ⟨he, bel⟩ => ?_
  subst he
  exact ⟨_, rfl, _, _, _, [], _, [], hW', trodAll_mk1 (shut_bool Try.underlying4 _), (trodAll_cons_mk (shut_string Try.underlying9 w0) (trodAll_cons_mk (shut_string Try.underlying9 w1) trodAll_mk0)), rfl, bel.frame _, fun h => by cases h⟩

theorem over : Rows.fnInsideSplitAtLastDotRow.holds Try.pinned (OpenSpec.ofChange Rows.fnInsideSplitAtLastDotSpec) :=
  OpenClaim.holds_of_wide 5 Try.f5 rfl rfl rfl rfl rfl rfl rfl ⟨rfl, rfl, rfl, rfl, rfl⟩ rfl rfl rfl rfl rfl (by kernel_rfl) Try.func5 (by kernel_rfl)
    (of_decide_eq_true (by kernel_rfl)) (by unfold Func.isWrapper; first | (rw [if_pos (by decide +kernel)]; kernel_rfl) | (rw [if_neg (by decide +kernel)]; exact ⟨rfl, rfl⟩))
    (fun os started H enc _ => lifted os started H enc)

/-- ████ THE STATEMENT ████ -/
theorem proved : Rows.FnInsideSplitAtLastDotSaid :=
  over
end Go.Proofs.Qxb6001494a.fnInsideSplitAtLastDot
