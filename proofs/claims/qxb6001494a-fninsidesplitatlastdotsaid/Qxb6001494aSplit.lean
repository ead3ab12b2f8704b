/-
  Seat b6001494a. The contracts of zzHasDotB1 (10) and zzSplitLastDotB1 (11).
-/
import Derived.Test.Qxb6001494aInside
import Derived.WalkKit
import Derived.ProofKit
import Derived.Below
import Derived.RegionTactic
import Derived.ChangeAlike
import Derived.Lib.Strings
namespace Go.Proofs.Qxb6001494a
open Go.ChangeShapes Go.WideShapes Go.ChangeAt Go.RowKit

/-- No byte of s is a dot. -/
def NoDot (s : ByteArray) : Prop := ∀ (i : Nat) (h : i < s.size), ((s[i]'h).toNat : Int) ≠ 46

/-- How zzHasDotB1 ends: true, or false where there is no dot. -/
def DotEnd (s : ByteArray) (e : Ending) : Prop := e = .returned (.bool true) ∨ (e = .returned (.bool false) ∧ NoDot s)

theorem hasDot_any (s : ByteArray) (w : World) (hs : s.size ≤ 4194304) :
    Calls Try.prog 10 #[.string s] w fun e w' => DotEnd s e ∧ w = w' := by
  go_enter Try.func10, Try.ntmps10
  go_wp2
  go_loop [3] (fun i => ∃ k : Nat, k ≤ s.size ∧ i = .int .i64 k ∧ Hid (∀ (j : Nat) (h : j < s.size), j < k → ((s[j]'h).toNat : Int) ≠ 46)) (fun i => s.size - (intOf i).toNat)
  case atStart => exact ⟨0, Nat.zero_le _, rfl, fun _ _ h => absurd h (Nat.not_lt_zero _)⟩
  case round =>
    obtain ⟨k, hk, rfl, H⟩ := hrel
    by_cases hlt : k < s.size
    · by_cases hd : ((s[k]'hlt).toNat : Int) = 46
      · have hd' : (((s[k]'hlt).toNat : Int) == 46) = true := by simpa using hd
        clear hd
        go_wp2
        go_ret
        exact ⟨.inl rfl, rfl⟩
      · have hd' : (((s[k]'hlt).toNat : Int) == 46) = false := by simpa using hd
        have HD : Hid (((s[k]'hlt).toNat : Int) ≠ 46) := hd
        clear hd
        go_wp2
        go_round
        case rel =>
          refine ⟨k + 1, by omega, by go_num, fun j h hj => ?_⟩
          by_cases e : j = k
          · subst e; exact HD.out
          · exact H.out j h (by omega)
        case measure => simp [intOf]; omega
    · have hkk : k = s.size := by omega
      subst hkk
      go_wp2
      go_ret
      exact ⟨.inr ⟨rfl, fun j h => H.out j h h⟩, rfl⟩

theorem split_none (s : ByteArray) (w : World) (hs : s.size ≤ 4194304) (hn : NoDot s) :
    Calls Try.prog 11 #[.string s] w fun e w' => e = .returned (.tuple #[.string ⟨#[]⟩, .string s]) ∧ w = w' := by
  have HN : Hid (NoDot s) := hn
  clear hn
  go_enter Try.func11, Try.ntmps11
  go_wp2
  go_loop [4] (fun i => (∃ k : Nat, k < s.size ∧ i = .int .i64 k) ∨ i = .int .i64 (-1)) (fun i => (intOf i + 1).toNat)
  case atStart =>
    by_cases h0 : s.size = 0
    · exact .inr (by rw [h0]; rfl)
    · exact .inl ⟨s.size - 1, by omega, by congr 1; omega⟩
  case round =>
    rcases hrel with ⟨k, hk, rfl⟩ | rfl
    · have hd' : (((s[k]'hk).toNat : Int) != 46) = true := by simpa using HN.out k hk
      go_wp2
      go_round
      case rel =>
        by_cases h0 : k = 0
        · subst h0; exact .inr rfl
        · exact .inl ⟨k - 1, by omega, by congr 1; omega⟩
      case measure => simp [intOf]
    · go_wp2
      go_ret2
      exact ⟨rfl, rfl⟩

theorem split_at (s : ByteArray) (d : Nat) (w : World) (hs : s.size ≤ 4194304) (hd : d < s.size) (hdot : ((s[d]'hd).toNat : Int) = 46) (hn : ∀ (i : Nat) (h : i < s.size), d < i → ((s[i]'h).toNat : Int) ≠ 46) :
    Calls Try.prog 11 #[.string s] w fun e w' => e = .returned (.tuple #[.string (s.extract 0 d), .string (s.extract (d + 1) s.size)]) ∧ Below w.heap.size w w' := by
  have HN : Hid (∀ (i : Nat) (h : i < s.size), d < i → ((s[i]'h).toNat : Int) ≠ 46) := hn
  have HD : Hid (((s[d]'hd).toNat : Int) = 46) := hdot
  clear hn hdot
  go_enter Try.func11, Try.ntmps11
  go_wp2
  go_loop [4] (fun i => ∃ k : Nat, k < s.size ∧ i = .int .i64 k ∧ d ≤ k) (fun i => (intOf i + 1).toNat)
  case atStart => exact ⟨s.size - 1, by omega, by congr 1; omega, by omega⟩
  case round =>
    obtain ⟨k, hk, rfl, hdk⟩ := hrel
    by_cases e : k = d
    · subst e
      have hd' : (((s[k]'hk).toNat : Int) != 46) = false := by simpa using HD.out
      have h1 : (k : Int) + 1 ≤ (s.size : Int) := by omega
      go_wp2
      go_region
      go_wp2
      go_ret2
      exact ⟨rfl, (Below.refl _ _).drew⟩
    · have hd' : (((s[k]'hk).toNat : Int) != 46) = true := by simpa using HN.out k hk (by omega)
      go_wp2
      go_round
      case rel => exact ⟨k - 1, by omega, by congr 1; omega, by omega⟩
      case measure => simp [intOf]

theorem at_dot (k n : ByteArray) (h : k.size < (k ++ ⟨#[46]⟩ ++ n).size) : (((k ++ ⟨#[46]⟩ ++ n)[k.size]'h).toNat : Int) = 46 := by
  have e : (k ++ ⟨#[46]⟩ ++ n)[k.size]'h = 46 := by
    show (k ++ ⟨#[46]⟩ ++ n).data[k.size] = 46
    have hd : (k ++ ⟨#[46]⟩ ++ n).data = k.data ++ #[46] ++ n.data := by simp
    simp only [hd]
    rw [Array.getElem_append_left (by show k.data.size < _; simp), Array.getElem_append_right (by exact Nat.le_refl _)]
    simp
  rw [e]
  rfl

theorem past_dot (k n : ByteArray) (hn : NoDot n) (i : Nat) (h : i < (k ++ ⟨#[46]⟩ ++ n).size) (hi : k.size < i) : (((k ++ ⟨#[46]⟩ ++ n)[i]'h).toNat : Int) ≠ 46 := by
  have hsz : (k ++ ⟨#[46]⟩ ++ n).size = k.size + 1 + n.size := by
    have e1 : (ByteArray.mk #[46]).size = 1 := rfl
    simp only [ByteArray.size_append, e1]
  have hj : i - (k.size + 1) < n.size := by omega
  have e : (k ++ ⟨#[46]⟩ ++ n)[i]'h = n[i - (k.size + 1)]'hj := by
    show (k ++ ⟨#[46]⟩ ++ n).data[i] = n.data[i - (k.size + 1)]
    have hd : (k ++ ⟨#[46]⟩ ++ n).data = k.data ++ #[46] ++ n.data := by simp
    have hks : k.data.size = k.size := rfl
    simp only [hd]
    rw [Array.getElem_append_right (by simp [hks]; omega)]
    simp [hks]
  rw [e]
  exact hn _ hj

theorem dot_data (k n : ByteArray) : (k ++ ⟨#[46]⟩ ++ n).data.toList = k.data.toList ++ 46 :: n.data.toList := by simp

theorem head_of (k n : ByteArray) : (k ++ ⟨#[46]⟩ ++ n).extract 0 k.size = k := by
  apply bytes_inj
  rw [Lib.extract_data, dot_data, List.drop_zero, Nat.sub_zero]
  exact List.take_left' rfl

theorem dot_size (k n : ByteArray) : (k ++ ⟨#[46]⟩ ++ n).size = k.size + 1 + n.size := by
  have e1 : (ByteArray.mk #[46]).size = 1 := rfl
  simp only [ByteArray.size_append, e1]

theorem tail_of (k n : ByteArray) : (k ++ ⟨#[46]⟩ ++ n).extract (k.size + 1) (k ++ ⟨#[46]⟩ ++ n).size = n := by
  apply bytes_inj
  rw [Lib.extract_data, dot_data, dot_size]
  have hk : k.data.toList.length = k.size := rfl
  have e : (k.data.toList ++ 46 :: n.data.toList).drop (k.size + 1) = n.data.toList := by
    rw [← hk, List.drop_append, List.drop_eq_nil_of_le (by omega), show k.data.toList.length + 1 - k.data.toList.length = 1 by omega]
    rfl
  rw [e]
  exact List.take_of_length_le (by show n.size ≤ _; omega)

theorem split_dot (k n : ByteArray) (w : World) (hk : k.size ≤ 1048576) (hs : n.size ≤ 1048576) (hn : NoDot n) :
    Calls Try.prog 11 #[.string (k ++ ⟨#[46]⟩ ++ n)] w fun e w' => e = .returned (.tuple #[.string k, .string n]) ∧ Below w.heap.size w w' := by
  have hsz := dot_size k n
  have hd : k.size < (k ++ ⟨#[46]⟩ ++ n).size := by omega
  have h1 := at_dot k n hd
  have h2 := past_dot k n hn
  have e1 := head_of k n
  have e2 := tail_of k n
  generalize k ++ ⟨#[46]⟩ ++ n = s at *
  have h := split_at s k.size w (by omega) hd h1 h2
  rw [e1, e2] at h
  exact h
end Go.Proofs.Qxb6001494a
