/-
  Seat b6001179a. The contracts of 'condition.cut' (19) and 'condition.ZZcut' (10): bounds at every string; the exact answer where every byte is below 128.
-/
import Derived.Test.Qxb6001179aRows
import Derived.WalkKit
import Derived.ProofKit
import Derived.ShutString
import Derived.Below
namespace Go.Proofs.Qxb6001179a
open Go.ChangeShapes Go.WideShapes Go.ChangeAt Go.RowKit

theorem width_pos (s : ByteArray) (pos : Nat) (h : pos < s.size) : 1 ≤ (Utf8.decode s pos).2 := by
  by_cases ha : (s[pos]'h).toNat < 128
  · rw [decode_ascii s pos h ha]
    exact Nat.le_refl _
  · exact (decode_high s pos h (by omega)).2

theorem width_le (s : ByteArray) (pos : Nat) : (Utf8.decode s pos).2 ≤ 4 := by
  simp only [Utf8.decode]
  repeat' split
  all_goals simp

theorem ret_int {k : IntKind} {a b : Int} (h : a = b) : Ending.returned (.int k a) = .returned (.int k b) := by rw [h]

/-- What 'cut' answers: between min(len, 10000) and min(len, 40000). -/
def Within (n : Nat) (k : Nat) : Prop := k ≤ n ∧ k ≤ 40000 ∧ (n ≤ k ∨ 10000 ≤ k)

theorem cut_bounds (s : ByteArray) (w : World) (hs : s.size ≤ 1048576) :
    Calls Try.prog 19 #[.string s] w fun e w' => ∃ k : Nat, e = .returned (.int .i64 k) ∧ Within s.size k ∧ Below w.heap.size w w' := by
  go_enter Try.func19, Try.ntmps19
  go_wp2
  go_loopw [3] (fun n w' => ∃ (pos c : Nat), w' = w.iter s pos ∧ n = .int .i64 c ∧ c ≤ 10000 ∧ c ≤ pos ∧ pos ≤ 4 * c) (fun _ w' => s.size - w'.iterPos w.heap.size)
  case atStart => exact ⟨0, 0, rfl, rfl, by omega, by omega, by omega⟩
  case round =>
    obtain ⟨pos, c, rfl, rfl, hc, h1, h2⟩ := hrel
    have hwd := width_pos s pos
    have hwl := width_le s pos
    by_cases hp : pos < s.size
    · have hnx : ∀ ty, (Instr.next (.pointer (some ⟨w.heap.size, 0, none⟩)) true ty).run Try.prog (w.iter s pos) = _ := fun ty => run_next_any w s pos ty hp
      by_cases hten : c = 10000
      · subst hten
        go_wp2
        go_ret
        exact ⟨pos, rfl, ⟨by omega, by omega, by omega⟩, (Below.refl _ _).alloc (Nat.le_refl _) _⟩
      · have hne : ((c : Int) == 10000) = false := by simp; omega
        go_wp2
        go_roundw
        case rel => exact ⟨pos + (Utf8.decode s pos).2, c + 1, rfl, by go_num, by omega, by have := hwd hp; omega, by omega⟩
        case measure =>
          simp
          have := hwd hp
          omega
    · have hnx : ∀ ty, (Instr.next (.pointer (some ⟨w.heap.size, 0, none⟩)) true ty).run Try.prog (w.iter s pos) = _ := fun ty => run_next_end w s pos ty hp
      go_wp2
      go_ret
      exact ⟨s.size, rfl, ⟨by omega, by omega, by omega⟩, (Below.refl _ _).alloc (Nat.le_refl _) _⟩

theorem cut_ascii (s : ByteArray) (w : World) (hs : s.size ≤ 1048576) (ha : ∀ (i : Nat) (h : i < s.size), (s[i]'h).toNat < 128) :
    Calls Try.prog 19 #[.string s] w fun e w' => e = .returned (.int .i64 (min s.size 10000 : Nat)) ∧ Below w.heap.size w w' := by
  go_enter Try.func19, Try.ntmps19
  go_wp2
  go_loopw [3] (fun n w' => ∃ (pos : Nat), w' = w.iter s pos ∧ n = .int .i64 pos ∧ pos ≤ 10000 ∧ pos ≤ s.size) (fun _ w' => s.size - w'.iterPos w.heap.size)
  case atStart => exact ⟨0, rfl, rfl, by omega, by omega⟩
  case round =>
    obtain ⟨pos, rfl, rfl, hc, h1⟩ := hrel
    by_cases hp : pos < s.size
    · have hnx : ∀ ty, (Instr.next (.pointer (some ⟨w.heap.size, 0, none⟩)) true ty).run Try.prog (w.iter s pos) = _ := fun ty => run_next_ascii w s pos ty hp (ha pos hp)
      by_cases hten : pos = 10000
      · have HA : Hid (∀ (i : Nat) (h : i < s.size), (s[i]'h).toNat < 128) := ha
        clear ha
        subst hten
        go_wp2
        go_ret
        exact ⟨ret_int (by omega), (Below.refl _ _).alloc (Nat.le_refl _) _⟩
      · have hne : ((pos : Int) == 10000) = false := by simp; omega
        clear ha
        go_wp2
        go_roundw
        case rel => exact ⟨pos + 1, rfl, by go_num, by omega, by omega⟩
        case measure =>
          simp
          omega
    · have hnx : ∀ ty, (Instr.next (.pointer (some ⟨w.heap.size, 0, none⟩)) true ty).run Try.prog (w.iter s pos) = _ := fun ty => run_next_end w s pos ty hp
      clear ha
      go_wp2
      go_ret
      exact ⟨ret_int (by omega), (Below.refl _ _).alloc (Nat.le_refl _) _⟩

theorem zzcut_bounds (s : ByteArray) (w : World) (hs : s.size ≤ 1048576) :
    Calls Try.prog 10 #[.string s] w fun e w' => ∃ k : Nat, e = .returned (.int .i64 k) ∧ Within s.size k ∧ Below w.heap.size w w' := by
  go_enter Try.func10, Try.ntmps10
  go_wp2_with (go_at_call 19; refine (cut_bounds _ _ hs).mono ?_; rintro e w' ⟨k, rfl, hk, hb⟩)
  go_ret
  exact ⟨k, rfl, hk, hb⟩

theorem zzcut_ascii (s : ByteArray) (w : World) (hs : s.size ≤ 1048576) (ha : ∀ (i : Nat) (h : i < s.size), (s[i]'h).toNat < 128) :
    Calls Try.prog 10 #[.string s] w fun e w' => e = .returned (.int .i64 (min s.size 10000 : Nat)) ∧ Below w.heap.size w w' := by
  have hcut := cut_ascii s w hs ha
  clear ha
  go_enter Try.func10, Try.ntmps10
  go_wp2_with (go_at_call 19; refine hcut.mono ?_; rintro e w' ⟨rfl, hb⟩)
  go_ret
  exact ⟨rfl, hb⟩

end Go.Proofs.Qxb6001179a
