/-
  Seat b6600040a. The contracts of isDigitByte (17), numberStep (13), numberAccepting (15), zzBytes_FnNumberMatchesAutomaton (12).
-/
import Derived.Test.Qxb6600040aRows
import Derived.Test.Qxb6600040aAuto
import Derived.WalkKit
import Derived.ProofKit
import Derived.Below
namespace Go.Proofs.Qxb6600040a
open Go.ChangeShapes Go.WideShapes Go.ChangeAt Go.RowKit

/-- It returns some bool. -/
def RetBool (e : Ending) : Prop := ∃ b : Bool, e = .returned (.bool b)

theorem ret_int {k : IntKind} {a b : Int} (h : a = b) : Ending.returned (.int k a) = .returned (.int k b) := by rw [h]
theorem ret_bool {a b : Bool} (h : a = b) : Ending.returned (.bool a) = .returned (.bool b) := by rw [h]

theorem numBytes_any (a : Option Addr) (n c : Nat) (x : Int) (w : World) (hn : n ≤ maxLen) :
    Calls Try.prog 12 #[.slice a n c, .int .i64 x] w fun e w' => RetBool e ∧ w = w' := by
  unfold maxLen at hn
  go_enter Try.func12, Try.ntmps12
  go_wp2
  all_goals (go_ret; exact ⟨⟨_, rfl⟩, rfl⟩)

theorem isDigit_any (c : Int) (w : World) : Calls Try.prog 17 #[.int .u8 c] w fun e w' => e = .returned (.bool (digC c)) ∧ w = w' := by
  unfold digC
  by_cases h : 48 ≤ c
  · go_enter Try.func17, Try.ntmps17
    go_wp2
    go_ret
    exact ⟨ret_bool (by simp [h]), rfl⟩
  · go_enter Try.func17, Try.ntmps17
    go_wp2
    go_ret
    exact ⟨ret_bool (by simp; omega), rfl⟩

theorem accepting_any (s : Int) (w : World) : Calls Try.prog 15 #[.int .i64 s] w fun e w' => e = .returned (.bool (acc s)) ∧ w = w' := by
  go_enter Try.func15, Try.ntmps15
  go_wp2
  all_goals (go_ret; exact ⟨ret_bool (by first | rfl | (subst_vars; rfl)), rfl⟩)

theorem step_0 (c : Int) (w : World) : Calls Try.prog 13 #[.int .i64 0, .int .u8 c] w fun e w' => e = .returned (.int .i64 (stepF 0 c)) ∧ w = w' := by
  have hd := fun w => isDigit_any c w
  by_cases e1 : c = 101
  · subst e1
    go_enter Try.func13, Try.ntmps13
    go_wp2_with (first | (go_at_call 17; refine (hd _).mono ?_; rintro e w' ⟨rfl, rfl⟩; clear hd))
    all_goals (go_ret; exact ⟨ret_int (by first | rfl | simp_all [stepF, expC] | simp_all [digC]), rfl⟩)
  by_cases e2 : c = 69
  · subst e2
    go_enter Try.func13, Try.ntmps13
    go_wp2_with (first | (go_at_call 17; refine (hd _).mono ?_; rintro e w' ⟨rfl, rfl⟩; clear hd))
    all_goals (go_ret; exact ⟨ret_int (by first | rfl | simp_all [stepF, expC] | simp_all [digC]), rfl⟩)
  have g1 : (c == 101) = false := by simpa using e1
  have g2 : (c == 69) = false := by simpa using e2
  have hx : expC c = false := by simp [expC, g1, g2]
  clear e1 e2
  go_enter Try.func13, Try.ntmps13
  go_wp2_with (first | (go_at_call 17; refine (hd _).mono ?_; rintro e w' ⟨rfl, rfl⟩; clear hd))
  all_goals (go_ret; exact ⟨ret_int (by first | rfl | simp_all [stepF, expC] | simp_all [digC]), rfl⟩)

theorem step_1 (c : Int) (w : World) : Calls Try.prog 13 #[.int .i64 1, .int .u8 c] w fun e w' => e = .returned (.int .i64 (stepF 1 c)) ∧ w = w' := by
  have hd := fun w => isDigit_any c w
  by_cases e1 : c = 101
  · subst e1
    go_enter Try.func13, Try.ntmps13
    go_wp2_with (first | (go_at_call 17; refine (hd _).mono ?_; rintro e w' ⟨rfl, rfl⟩; clear hd))
    all_goals (go_ret; exact ⟨ret_int (by first | rfl | simp_all [stepF, expC] | simp_all [digC]), rfl⟩)
  by_cases e2 : c = 69
  · subst e2
    go_enter Try.func13, Try.ntmps13
    go_wp2_with (first | (go_at_call 17; refine (hd _).mono ?_; rintro e w' ⟨rfl, rfl⟩; clear hd))
    all_goals (go_ret; exact ⟨ret_int (by first | rfl | simp_all [stepF, expC] | simp_all [digC]), rfl⟩)
  have g1 : (c == 101) = false := by simpa using e1
  have g2 : (c == 69) = false := by simpa using e2
  have hx : expC c = false := by simp [expC, g1, g2]
  clear e1 e2
  go_enter Try.func13, Try.ntmps13
  go_wp2_with (first | (go_at_call 17; refine (hd _).mono ?_; rintro e w' ⟨rfl, rfl⟩; clear hd))
  all_goals (go_ret; exact ⟨ret_int (by first | rfl | simp_all [stepF, expC] | simp_all [digC]), rfl⟩)

theorem step_2 (c : Int) (w : World) : Calls Try.prog 13 #[.int .i64 2, .int .u8 c] w fun e w' => e = .returned (.int .i64 (stepF 2 c)) ∧ w = w' := by
  have hd := fun w => isDigit_any c w
  by_cases e1 : c = 101
  · subst e1
    go_enter Try.func13, Try.ntmps13
    go_wp2_with (first | (go_at_call 17; refine (hd _).mono ?_; rintro e w' ⟨rfl, rfl⟩; clear hd))
    all_goals (go_ret; exact ⟨ret_int (by first | rfl | simp_all [stepF, expC] | simp_all [digC]), rfl⟩)
  by_cases e2 : c = 69
  · subst e2
    go_enter Try.func13, Try.ntmps13
    go_wp2_with (first | (go_at_call 17; refine (hd _).mono ?_; rintro e w' ⟨rfl, rfl⟩; clear hd))
    all_goals (go_ret; exact ⟨ret_int (by first | rfl | simp_all [stepF, expC] | simp_all [digC]), rfl⟩)
  have g1 : (c == 101) = false := by simpa using e1
  have g2 : (c == 69) = false := by simpa using e2
  have hx : expC c = false := by simp [expC, g1, g2]
  clear e1 e2
  go_enter Try.func13, Try.ntmps13
  go_wp2_with (first | (go_at_call 17; refine (hd _).mono ?_; rintro e w' ⟨rfl, rfl⟩; clear hd))
  all_goals (go_ret; exact ⟨ret_int (by first | rfl | simp_all [stepF, expC] | simp_all [digC]), rfl⟩)

theorem step_3 (c : Int) (w : World) : Calls Try.prog 13 #[.int .i64 3, .int .u8 c] w fun e w' => e = .returned (.int .i64 (stepF 3 c)) ∧ w = w' := by
  have hd := fun w => isDigit_any c w
  by_cases e1 : c = 101
  · subst e1
    go_enter Try.func13, Try.ntmps13
    go_wp2_with (first | (go_at_call 17; refine (hd _).mono ?_; rintro e w' ⟨rfl, rfl⟩; clear hd))
    all_goals (go_ret; exact ⟨ret_int (by first | rfl | simp_all [stepF, expC] | simp_all [digC]), rfl⟩)
  by_cases e2 : c = 69
  · subst e2
    go_enter Try.func13, Try.ntmps13
    go_wp2_with (first | (go_at_call 17; refine (hd _).mono ?_; rintro e w' ⟨rfl, rfl⟩; clear hd))
    all_goals (go_ret; exact ⟨ret_int (by first | rfl | simp_all [stepF, expC] | simp_all [digC]), rfl⟩)
  have g1 : (c == 101) = false := by simpa using e1
  have g2 : (c == 69) = false := by simpa using e2
  have hx : expC c = false := by simp [expC, g1, g2]
  clear e1 e2
  go_enter Try.func13, Try.ntmps13
  go_wp2_with (first | (go_at_call 17; refine (hd _).mono ?_; rintro e w' ⟨rfl, rfl⟩; clear hd))
  all_goals (go_ret; exact ⟨ret_int (by first | rfl | simp_all [stepF, expC] | simp_all [digC]), rfl⟩)

theorem step_4 (c : Int) (w : World) : Calls Try.prog 13 #[.int .i64 4, .int .u8 c] w fun e w' => e = .returned (.int .i64 (stepF 4 c)) ∧ w = w' := by
  have hd := fun w => isDigit_any c w
  by_cases e1 : c = 101
  · subst e1
    go_enter Try.func13, Try.ntmps13
    go_wp2_with (first | (go_at_call 17; refine (hd _).mono ?_; rintro e w' ⟨rfl, rfl⟩; clear hd))
    all_goals (go_ret; exact ⟨ret_int (by first | rfl | simp_all [stepF, expC] | simp_all [digC]), rfl⟩)
  by_cases e2 : c = 69
  · subst e2
    go_enter Try.func13, Try.ntmps13
    go_wp2_with (first | (go_at_call 17; refine (hd _).mono ?_; rintro e w' ⟨rfl, rfl⟩; clear hd))
    all_goals (go_ret; exact ⟨ret_int (by first | rfl | simp_all [stepF, expC] | simp_all [digC]), rfl⟩)
  have g1 : (c == 101) = false := by simpa using e1
  have g2 : (c == 69) = false := by simpa using e2
  have hx : expC c = false := by simp [expC, g1, g2]
  clear e1 e2
  go_enter Try.func13, Try.ntmps13
  go_wp2_with (first | (go_at_call 17; refine (hd _).mono ?_; rintro e w' ⟨rfl, rfl⟩; clear hd))
  all_goals (go_ret; exact ⟨ret_int (by first | rfl | simp_all [stepF, expC] | simp_all [digC]), rfl⟩)

theorem step_5 (c : Int) (w : World) : Calls Try.prog 13 #[.int .i64 5, .int .u8 c] w fun e w' => e = .returned (.int .i64 (stepF 5 c)) ∧ w = w' := by
  have hd := fun w => isDigit_any c w
  by_cases e1 : c = 101
  · subst e1
    go_enter Try.func13, Try.ntmps13
    go_wp2_with (first | (go_at_call 17; refine (hd _).mono ?_; rintro e w' ⟨rfl, rfl⟩; clear hd))
    all_goals (go_ret; exact ⟨ret_int (by first | rfl | simp_all [stepF, expC] | simp_all [digC]), rfl⟩)
  by_cases e2 : c = 69
  · subst e2
    go_enter Try.func13, Try.ntmps13
    go_wp2_with (first | (go_at_call 17; refine (hd _).mono ?_; rintro e w' ⟨rfl, rfl⟩; clear hd))
    all_goals (go_ret; exact ⟨ret_int (by first | rfl | simp_all [stepF, expC] | simp_all [digC]), rfl⟩)
  have g1 : (c == 101) = false := by simpa using e1
  have g2 : (c == 69) = false := by simpa using e2
  have hx : expC c = false := by simp [expC, g1, g2]
  clear e1 e2
  go_enter Try.func13, Try.ntmps13
  go_wp2_with (first | (go_at_call 17; refine (hd _).mono ?_; rintro e w' ⟨rfl, rfl⟩; clear hd))
  all_goals (go_ret; exact ⟨ret_int (by first | rfl | simp_all [stepF, expC] | simp_all [digC]), rfl⟩)

theorem step_6 (c : Int) (w : World) : Calls Try.prog 13 #[.int .i64 6, .int .u8 c] w fun e w' => e = .returned (.int .i64 (stepF 6 c)) ∧ w = w' := by
  have hd := fun w => isDigit_any c w
  by_cases e1 : c = 101
  · subst e1
    go_enter Try.func13, Try.ntmps13
    go_wp2_with (first | (go_at_call 17; refine (hd _).mono ?_; rintro e w' ⟨rfl, rfl⟩; clear hd))
    all_goals (go_ret; exact ⟨ret_int (by first | rfl | simp_all [stepF, expC] | simp_all [digC]), rfl⟩)
  by_cases e2 : c = 69
  · subst e2
    go_enter Try.func13, Try.ntmps13
    go_wp2_with (first | (go_at_call 17; refine (hd _).mono ?_; rintro e w' ⟨rfl, rfl⟩; clear hd))
    all_goals (go_ret; exact ⟨ret_int (by first | rfl | simp_all [stepF, expC] | simp_all [digC]), rfl⟩)
  have g1 : (c == 101) = false := by simpa using e1
  have g2 : (c == 69) = false := by simpa using e2
  have hx : expC c = false := by simp [expC, g1, g2]
  clear e1 e2
  go_enter Try.func13, Try.ntmps13
  go_wp2_with (first | (go_at_call 17; refine (hd _).mono ?_; rintro e w' ⟨rfl, rfl⟩; clear hd))
  all_goals (go_ret; exact ⟨ret_int (by first | rfl | simp_all [stepF, expC] | simp_all [digC]), rfl⟩)

theorem step_7 (c : Int) (w : World) : Calls Try.prog 13 #[.int .i64 7, .int .u8 c] w fun e w' => e = .returned (.int .i64 (stepF 7 c)) ∧ w = w' := by
  have hd := fun w => isDigit_any c w
  by_cases e1 : c = 101
  · subst e1
    go_enter Try.func13, Try.ntmps13
    go_wp2_with (first | (go_at_call 17; refine (hd _).mono ?_; rintro e w' ⟨rfl, rfl⟩; clear hd))
    all_goals (go_ret; exact ⟨ret_int (by first | rfl | simp_all [stepF, expC] | simp_all [digC]), rfl⟩)
  by_cases e2 : c = 69
  · subst e2
    go_enter Try.func13, Try.ntmps13
    go_wp2_with (first | (go_at_call 17; refine (hd _).mono ?_; rintro e w' ⟨rfl, rfl⟩; clear hd))
    all_goals (go_ret; exact ⟨ret_int (by first | rfl | simp_all [stepF, expC] | simp_all [digC]), rfl⟩)
  have g1 : (c == 101) = false := by simpa using e1
  have g2 : (c == 69) = false := by simpa using e2
  have hx : expC c = false := by simp [expC, g1, g2]
  clear e1 e2
  go_enter Try.func13, Try.ntmps13
  go_wp2_with (first | (go_at_call 17; refine (hd _).mono ?_; rintro e w' ⟨rfl, rfl⟩; clear hd))
  all_goals (go_ret; exact ⟨ret_int (by first | rfl | simp_all [stepF, expC] | simp_all [digC]), rfl⟩)

theorem step_8 (c : Int) (w : World) : Calls Try.prog 13 #[.int .i64 8, .int .u8 c] w fun e w' => e = .returned (.int .i64 (stepF 8 c)) ∧ w = w' := by
  have hd := fun w => isDigit_any c w
  by_cases e1 : c = 101
  · subst e1
    go_enter Try.func13, Try.ntmps13
    go_wp2_with (first | (go_at_call 17; refine (hd _).mono ?_; rintro e w' ⟨rfl, rfl⟩; clear hd))
    all_goals (go_ret; exact ⟨ret_int (by first | rfl | simp_all [stepF, expC] | simp_all [digC]), rfl⟩)
  by_cases e2 : c = 69
  · subst e2
    go_enter Try.func13, Try.ntmps13
    go_wp2_with (first | (go_at_call 17; refine (hd _).mono ?_; rintro e w' ⟨rfl, rfl⟩; clear hd))
    all_goals (go_ret; exact ⟨ret_int (by first | rfl | simp_all [stepF, expC] | simp_all [digC]), rfl⟩)
  have g1 : (c == 101) = false := by simpa using e1
  have g2 : (c == 69) = false := by simpa using e2
  have hx : expC c = false := by simp [expC, g1, g2]
  clear e1 e2
  go_enter Try.func13, Try.ntmps13
  go_wp2_with (first | (go_at_call 17; refine (hd _).mono ?_; rintro e w' ⟨rfl, rfl⟩; clear hd))
  all_goals (go_ret; exact ⟨ret_int (by first | rfl | simp_all [stepF, expC] | simp_all [digC]), rfl⟩)

theorem step_any (s c : Int) (w : World) (h0 : 0 ≤ s) (h8 : s ≤ 8) : Calls Try.prog 13 #[.int .i64 s, .int .u8 c] w fun e w' => e = .returned (.int .i64 (stepF s c)) ∧ w = w' := by
  have : s = 0 ∨ s = 1 ∨ s = 2 ∨ s = 3 ∨ s = 4 ∨ s = 5 ∨ s = 6 ∨ s = 7 ∨ s = 8 := by omega
  rcases this with rfl | rfl | rfl | rfl | rfl | rfl | rfl | rfl | rfl
  · exact step_0 c w
  · exact step_1 c w
  · exact step_2 c w
  · exact step_3 c w
  · exact step_4 c w
  · exact step_5 c w
  · exact step_6 c w
  · exact step_7 c w
  · exact step_8 c w
end Go.Proofs.Qxb6600040a
