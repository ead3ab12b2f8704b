/-
  Seat b6001494a. 'Rows.FnInsideInjectiveSaid'. The frame: the seat's shell (proof-skeleton.mjs), its end turned from 'Grown' to 'Below'.
-/
import Derived.Test.Qxb6001494aRows
import Derived.Test.Qxb6001494aInside
import Derived.WalkKit
import Derived.ProofKit
import Derived.OpenShut
import Derived.ShutString
import Derived.Below
namespace Go.Proofs.Qxb6001494a.fnInsideInjective
open Go.ChangeShapes Go.WideShapes Go.ChangeAt Go.RowKit
open Go.ChangeMaps (open_string shut_string)
set_option linter.unusedVariables false      -- a walk need not use every 'w<i>' (that an integer argument fits its kind)

theorem own : ownKnob Try.prog.godebug = none := by kernel_rfl

/-! ### THE WALK -/
theorem bytes_any (k1 k2 n1 n2 : ByteArray) (w : World) (ha : k1.size ≤ maxLen) (hb : k2.size ≤ maxLen) (hc : n1.size ≤ maxLen) (hd : n2.size ≤ maxLen) :
    Calls Try.prog 8 #[.string k1, .string k2, .string n1, .string n2] w fun e w' => RetBool e ∧ w = w' := by
  unfold maxLen at ha hb hc hd
  go_enter Try.func8, Try.ntmps8
  go_wp2
  all_goals (go_ret; exact ⟨⟨_, rfl⟩, rfl⟩)

set_option maxHeartbeats 4000000 in
theorem walk (k1 k2 n1 n2 : ByteArray) (w0 : k1.size ≤ maxLen) (w1 : k2.size ≤ maxLen) (w2 : n1.size ≤ maxLen) (w3 : n2.size ≤ maxLen) (w : World) :
    Calls Try.prog 4 #[.string k1, .string k2, .string n1, .string n2] w fun e w' => e = .returned (.bool true) ∧ Below w.heap.size w w' := by
  have h6 := bytes_any k1 k2 n1 n2 w w0 w1 w2 w3
  unfold maxLen at w0 w1 w2 w3
  by_cases h1 : 1048576 < k1.size
  · go_enter Try.func4, Try.ntmps4
    go_wp2_with (first | (go_at_call 8; refine h6.mono ?_; rintro e w' ⟨⟨bb, rfl⟩, rfl⟩; clear h6))
    all_goals (go_ret; exact ⟨rfl, Below.refl _ _⟩)
  by_cases h2 : 1048576 < k2.size
  · go_enter Try.func4, Try.ntmps4
    go_wp2_with (first | (go_at_call 8; refine h6.mono ?_; rintro e w' ⟨⟨bb, rfl⟩, rfl⟩; clear h6))
    all_goals (go_ret; exact ⟨rfl, Below.refl _ _⟩)
  by_cases h3 : 1048576 < n1.size
  · go_enter Try.func4, Try.ntmps4
    go_wp2_with (first | (go_at_call 8; refine h6.mono ?_; rintro e w' ⟨⟨bb, rfl⟩, rfl⟩; clear h6))
    all_goals (go_ret; exact ⟨rfl, Below.refl _ _⟩)
  by_cases h5 : 1048576 < n2.size
  · go_enter Try.func4, Try.ntmps4
    go_wp2_with (first | (go_at_call 8; refine h6.mono ?_; rintro e w' ⟨⟨bb, rfl⟩, rfl⟩; clear h6))
    all_goals (go_ret; exact ⟨rfl, Below.refl _ _⟩)
  by_cases h4 : 1048576 < k1.size + k2.size + n1.size + n2.size
  · go_enter Try.func4, Try.ntmps4
    go_wp2_with (first | (go_at_call 8; refine h6.mono ?_; rintro e w' ⟨⟨bb, rfl⟩, rfl⟩; clear h6))
    all_goals (go_ret; exact ⟨rfl, Below.refl _ _⟩)
  have hL : ((ins k1 n1).toList == (ins k1 n2).toList) = (n1.toList == n2.toList) := by
    rw [ins_list, ins_list]; exact insL_name _ _ _
  have hR : ((ins k1 n1).toList == (ins k2 n1).toList) = (k1.toList == k2.toList) := by
    rw [ins_list, ins_list]; exact insL_key _ _ _
  have c1 := fun w => zzinside_any k1 n1 w (by omega) (by omega)
  have c2 := fun w => zzinside_any k1 n2 w (by omega) (by omega)
  have c3 := fun w => zzinside_any k2 n1 w (by omega) (by omega)
  generalize ins k1 n1 = L at *
  generalize ins k1 n2 = M at *
  generalize ins k2 n1 = R at *
  go_enter Try.func4, Try.ntmps4
  go_wp2_with (first | (go_at_call 8; refine h6.mono ?_; rintro e w' ⟨⟨bb, rfl⟩, rfl⟩; clear h6) | (go_at_call 7; first | (refine (c1 _).mono ?_; rintro e w' ⟨rfl, rfl⟩) | (refine (c2 _).mono ?_; rintro e w' ⟨rfl, rfl⟩) | (refine (c3 _).mono ?_; rintro e w' ⟨rfl, rfl⟩)))
  all_goals (go_ret; exact ⟨ret_bool (by simp), Below.refl _ _⟩)

/-! ### THE ROW's STEP: WRITTEN OUT: LEAVE IT -/
set_option maxRecDepth 100000 in
theorem lifted (os : Os) (started : os.Started) (H : Type) (enc : TypeId × Value → H) :
    ReturnsInHanded {} Try.checked os 4 .any (Rows.fnInsideInjectiveSpec.pre6 enc Try.prog Try.f4 Rows.fnInsideInjectiveRow.domain false) (Rows.fnInsideInjectiveSpec.post enc Try.prog Try.f4 false true false false) := by
  refine returnsInHanded_of_change (C := Try.checked) own started (by kernel_rfl) Try.func4
    (ChangeSpec.witness6 (enc := enc) (C := Try.checked) false ⟨#[], #[.string ByteArray.empty, .string ByteArray.empty, .string ByteArray.empty, .string ByteArray.empty], []⟩ 8 (by kernel_rfl) (by kernel_rfl) (by kernel_rfl) (by kernel_rfl)) ?_
  intro W base args ds gs before hval0 hW hcnd _
  have hval : ∀ (j : Nat) t v, Try.f4.params[j]? = some t → args[j]? = some v → Value.okWide Try.prog W .any base t v := hval0
  have hW' := hW
  obtain ⟨p, q, hA0, hV, rfl, hfz, hnd⟩ := hW
  have hA : DataW.TrodAll enc Try.prog W 0 (fun _ => true) true Try.f4.params.toList args.toList ds p := hA0
  rw [Try.params4] at hA hval
  obtain ⟨v0, vs0, d0, ds0, p0, q0, hargs, rfl, rfl, h0, r0⟩ := trodAll_cons hA
  obtain ⟨v1, vs1, d1, ds1, p1, q1, rfl, rfl, rfl, h1, r1⟩ := trodAll_cons r0
  obtain ⟨v2, vs2, d2, ds2, p2, q2, rfl, rfl, rfl, h2, r2⟩ := trodAll_cons r1
  obtain ⟨v3, vs3, d3, ds3, p3, q3, rfl, rfl, rfl, h3, r3⟩ := trodAll_cons r2
  obtain ⟨rfl, rfl, rfl⟩ := trodAll_nil r3
  obtain rfl : args = #[v0, v1, v2, v3] := by cases args; simp_all
  obtain ⟨rfl, rfl⟩ := trodVars_none hV
  obtain ⟨a0, rfl, rfl, rfl, w0⟩ := open_string Try.underlying9 (hval 0 9 v0 rfl rfl) h0
  obtain ⟨a1, rfl, rfl, rfl, w1⟩ := open_string Try.underlying9 (hval 1 9 v1 rfl rfl) h1
  obtain ⟨a2, rfl, rfl, rfl, w2⟩ := open_string Try.underlying9 (hval 2 9 v2 rfl rfl) h2
  obtain ⟨a3, rfl, rfl, rfl, w3⟩ := open_string Try.underlying9 (hval 3 9 v3 rfl rfl) h3
  clear hA0 hval0
  refine (walk a0 a1 a2 a3 w0 w1 w2 w3 W).mono fun e W' ⟨he, bel⟩ => ?_
  subst he
  exact ⟨_, rfl, _, _, _, [], _, [], hW', trodAll_mk1 (shut_bool Try.underlying4 _), (trodAll_cons_mk (shut_string Try.underlying9 w0) (trodAll_cons_mk (shut_string Try.underlying9 w1) (trodAll_cons_mk (shut_string Try.underlying9 w2) (trodAll_cons_mk (shut_string Try.underlying9 w3) trodAll_mk0)))), rfl, bel.frame _, fun h => by cases h⟩

theorem over : Rows.fnInsideInjectiveRow.holds Try.pinned (OpenSpec.ofChange Rows.fnInsideInjectiveSpec) :=
  OpenClaim.holds_of_wide 4 Try.f4 rfl rfl rfl rfl rfl rfl rfl ⟨rfl, rfl, rfl, rfl, rfl⟩ rfl rfl rfl rfl rfl (by kernel_rfl) Try.func4 (by kernel_rfl)
    (of_decide_eq_true (by kernel_rfl)) (by unfold Func.isWrapper; first | (rw [if_pos (by decide +kernel)]; kernel_rfl) | (rw [if_neg (by decide +kernel)]; exact ⟨rfl, rfl⟩))
    (fun os started H enc _ => lifted os started H enc)

/-- ████ THE STATEMENT ████ -/
theorem proved : Rows.FnInsideInjectiveSaid :=
  over
end Go.Proofs.Qxb6001494a.fnInsideInjective
