/-
  Seat b6001179a. zzStringsBytes (14), zzBytes_FnTakeAnyAgreesWithTakeIf (16): they return, and only read.
-/
import Derived.Test.Qxb6001179aTake
import Derived.WalkKit
import Derived.ProofKit
import Derived.Below
namespace Go.Proofs.Qxb6001179a
open Go.ChangeShapes Go.WideShapes Go.ChangeAt Go.RowKit

/-- It returns some int. -/
def RetInt (e : Ending) : Prop := ∃ y : Int, e = .returned (.int .i64 y)
/-- It returns some bool. -/
def RetBool (e : Ending) : Prop := ∃ b : Bool, e = .returned (.bool b)

theorem strBytes_any (a : Option Addr) (m c : Nat) (os : Nat → ByteArray) (w : World) (hs : Strs w a m os) (hm : m ≤ maxLen) :
    Calls Try.prog 14 #[.slice a m c] w fun e w' => RetInt e ∧ w = w' := by
  unfold maxLen at hm
  have HS : Hid (Strs w a m os) := hs
  clear hs
  go_enter Try.func14, Try.ntmps14
  go_wp2
  go_loop [3, 4] (fun t i => ∃ (k : Nat) (y : Int), k ≤ m ∧ i = .int .i64 k ∧ t = .int .i64 y) (fun _ i => m - (intOf i).toNat)
  case atStart => exact ⟨0, 0, Nat.zero_le _, rfl, rfl⟩
  case round =>
    obtain ⟨k, y, hk, rfl, rfl⟩ := hrel
    by_cases hlt : k < m
    · obtain ⟨b, off, rfl, hbl, hc⟩ := HS.out k hlt
      go_wp2
      go_round
      case rel => exact ⟨k + 1, _, by omega, by go_num, rfl⟩
      case measure => simp [intOf]; omega
    · go_wp2
      go_ret
      exact ⟨⟨y, rfl⟩, rfl⟩

set_option maxHeartbeats 1000000 in
theorem bytesTake_any (ak : Option Addr) (n cn : Nat) (a1 : Option Addr) (m1 c1 : Nat) (ts : Nat → ByteArray) (x : Int) (a : Option Addr) (m c : Nat) (os : Nat → ByteArray) (w : World)
    (hn : n ≤ maxLen) (hm1 : m1 ≤ maxLen) (hm : m ≤ maxLen) (ht : Strs w a1 m1 ts) (hs : Strs w a m os) :
    Calls Try.prog 16 #[.slice ak n cn, .slice a1 m1 c1, .int .i64 x, .slice a m c] w fun e w' => RetBool e ∧ w = w' := by
  unfold maxLen at hn hm1 hm
  have HS : Hid (Strs w a m os) := hs
  have HT : Hid (Strs w a1 m1 ts) := ht
  clear hs ht
  by_cases h1 : 1048576 < n
  · go_enter Try.func16, Try.ntmps16
    go_wp2
    go_ret
    exact ⟨⟨_, rfl⟩, rfl⟩
  by_cases h2 : 1048576 < m1
  · go_enter Try.func16, Try.ntmps16
    go_wp2
    go_ret
    exact ⟨⟨_, rfl⟩, rfl⟩
  by_cases h3 : 1048576 < n + m1
  · go_enter Try.func16, Try.ntmps16
    go_wp2
    go_ret
    exact ⟨⟨_, rfl⟩, rfl⟩
  go_enter Try.func16, Try.ntmps16
  go_wp2
  go_loop [9, 10] (fun t i => ∃ (k : Nat) (y : Int), k ≤ m1 ∧ i = .int .i64 k ∧ t = .int .i64 y ∧ 0 ≤ y ∧ y ≤ 1048576) (fun _ i => m1 - (intOf i).toNat)
  case atStart => exact ⟨0, _, Nat.zero_le _, rfl, rfl, by omega, by omega⟩
  case round =>
    obtain ⟨k, y, hk, rfl, rfl, hy0, hy1⟩ := hrel
    by_cases hlt : k < m1
    · obtain ⟨b, off, rfl, hbl, hc⟩ := HT.out k hlt
      by_cases g1 : 1048576 < (ts k).size
      · go_wp2
        go_ret
        exact ⟨⟨_, rfl⟩, rfl⟩
      by_cases g2 : 1048576 < y + (ts k).size
      · go_wp2
        go_ret
        exact ⟨⟨_, rfl⟩, rfl⟩
      go_wp2
      go_round
      case rel => exact ⟨k + 1, _, by omega, by go_num, rfl, by omega, by omega⟩
      case measure => simp [intOf]; omega
    · have hkk : k = m1 := by omega
      subst hkk
      clear HT hk
      by_cases g1 : 1048576 < m
      · go_wp2
        go_ret
        exact ⟨⟨_, rfl⟩, rfl⟩
      by_cases g2 : 1048576 < y + m
      · go_wp2
        go_ret
        exact ⟨⟨_, rfl⟩, rfl⟩
      go_wp2
      go_loop [9, 11] (fun t i => ∃ (k : Nat) (y : Int), k ≤ m ∧ i = .int .i64 k ∧ t = .int .i64 y ∧ 0 ≤ y ∧ y ≤ 1048576) (fun _ i => m - (intOf i).toNat)
      case atStart => exact ⟨0, _, Nat.zero_le _, rfl, rfl, by omega, by omega⟩
      case round =>
        obtain ⟨j, z, hj, rfl, rfl, hz0, hz1⟩ := hrel
        by_cases hlt2 : j < m
        · obtain ⟨b, off, rfl, hbl, hc⟩ := HS.out j hlt2
          by_cases g3 : 1048576 < (os j).size
          · go_wp2
            go_ret
            exact ⟨⟨_, rfl⟩, rfl⟩
          by_cases g4 : 1048576 < z + (os j).size
          · go_wp2
            go_ret
            exact ⟨⟨_, rfl⟩, rfl⟩
          go_wp2
          go_round
          case rel => exact ⟨j + 1, _, by omega, by go_num, rfl, by omega, by omega⟩
          case measure => simp [intOf]; omega
        · go_wp2
          go_ret
          exact ⟨⟨_, rfl⟩, rfl⟩
end Go.Proofs.Qxb6001179a
