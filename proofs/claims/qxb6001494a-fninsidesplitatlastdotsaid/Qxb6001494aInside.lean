/-
  Seat b6001494a. The contracts of 'field.inside' (12) and 'field.ZZinside' (7), and the plain laws of what they compute.
-/
import Derived.Test.Qxb6001494aRows
import Derived.WalkKit
import Derived.ProofKit
import Derived.Below
namespace Go.Proofs.Qxb6001494a
open Go.ChangeShapes Go.WideShapes Go.ChangeAt Go.RowKit

/-- What 'inside' computes, on strings and on lists of bytes. -/
def ins (k n : ByteArray) : ByteArray := if k.toList.isEmpty then n else k ++ ⟨#[46]⟩ ++ n
def insL (k n : List UInt8) : List UInt8 := if k.isEmpty then n else k ++ 46 :: n

theorem ins_list (k n : ByteArray) : (ins k n).toList = insL k.toList n.toList := by
  unfold ins insL
  split
  · rfl
  · simp [ByteArray.toList_eq]

theorem ins_size (k n : ByteArray) : (ins k n).size ≤ k.size + n.size + 1 := by
  unfold ins
  split
  · omega
  · have e : (ByteArray.mk #[46]).size = 1 := rfl
    simp only [ByteArray.size_append, e]
    omega

/-! ### The plain laws -/
theorem insL_assoc (a b c : List UInt8) : (insL (insL a b) c == insL a (insL b c)) = (!b.isEmpty || a.isEmpty) := by
  unfold insL
  cases a with
  | nil => simp
  | cons x a =>
    cases b with
    | nil => simp
    | cons y b => simp

theorem insL_name (k n1 n2 : List UInt8) : (insL k n1 == insL k n2) = (n1 == n2) := by
  unfold insL
  cases k with
  | nil => simp
  | cons x k =>
    rw [Bool.eq_iff_iff]
    simp

theorem insL_key (k1 k2 n : List UInt8) : (insL k1 n == insL k2 n) = (k1 == k2) := by
  unfold insL
  rw [Bool.eq_iff_iff]
  cases k1 with
  | nil =>
    cases k2 with
    | nil => simp
    | cons y k2 =>
      simp
      intro h
      have := congrArg List.length h
      simp at this
      omega
  | cons x k1 =>
    cases k2 with
    | nil =>
      simp
      intro h
      have := congrArg List.length h
      simp at this
      omega
    | cons y k2 =>
      simp only [List.isEmpty_cons, Bool.false_eq_true, if_false, beq_iff_eq]
      constructor
      · intro h
        exact List.append_cancel_right h
      · intro h
        rw [h]

/-! ### The contracts -/
theorem inside_any (k n : ByteArray) (w : World) (hk : k.size ≤ 4194304) (hn : n.size ≤ 4194304) :
    Calls Try.prog 12 #[.string k, .string n] w fun e w' => e = .returned (.string (ins k n)) ∧ w = w' := by
  cases he : k.toList.isEmpty with
  | false =>
    have hi : ins k n = k ++ ⟨#[46]⟩ ++ n := by simp [ins, he]
    rw [hi]
    clear hi
    go_enter Try.func12, Try.ntmps12
    go_wp2
    go_ret
    exact ⟨rfl, rfl⟩
  | true =>
    have hi : ins k n = n := by simp [ins, he]
    rw [hi]
    clear hi
    go_enter Try.func12, Try.ntmps12
    go_wp2
    go_ret
    exact ⟨rfl, rfl⟩

theorem zzinside_any (k n : ByteArray) (w : World) (hk : k.size ≤ 4194304) (hn : n.size ≤ 4194304) :
    Calls Try.prog 7 #[.string k, .string n] w fun e w' => e = .returned (.string (ins k n)) ∧ w = w' := by
  go_enter Try.func7, Try.ntmps7
  go_wp2_with (first | (go_at_call 12; refine (inside_any _ _ _ hk hn).mono ?_; rintro e w' ⟨rfl, rfl⟩))
  go_ret
  exact ⟨rfl, rfl⟩

/-- It returns some bool. -/
def RetBool (e : Ending) : Prop := ∃ b : Bool, e = .returned (.bool b)

theorem ret_bool {a b : Bool} (h : a = b) : Ending.returned (.bool a) = .returned (.bool b) := by rw [h]
end Go.Proofs.Qxb6001494a
