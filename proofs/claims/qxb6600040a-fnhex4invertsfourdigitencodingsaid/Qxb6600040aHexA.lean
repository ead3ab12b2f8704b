/-
  Seat b6600040a. The contract of hexEncodeDigit (8).
-/
import Derived.Test.Qxb6600040aRows
import Derived.WalkKit
import Derived.ProofKit
import Derived.Below
namespace Go.Proofs.Qxb6600040a
open Go.ChangeShapes Go.WideShapes Go.ChangeAt Go.RowKit

/-- The digit d (0..15), written in upper or lower case. -/
def encD (d : Int) (up : Bool) : Int := if d < 10 then 48 + d else if up then 55 + d else 87 + d

theorem encode_any (d : Int) (up : Bool) (w : World) (h0 : 0 ≤ d) (h1 : d < 16) :
    Calls Try.prog 8 #[.int .u8 d, .bool up] w fun e w' => e = .returned (.int .u8 (encD d up)) ∧ w = w' := by
  by_cases h : d < 10
  · have e : encD d up = 48 + d := by simp [encD, h]
    rw [e]
    go_enter Try.func8, Try.ntmps8
    go_wp2
    go_ret
    exact ⟨rfl, rfl⟩
  · cases up with
    | true =>
      have e : encD d true = 65 + d - 10 := by simp [encD, h]; omega
      rw [e]
      go_enter Try.func8, Try.ntmps8
      go_wp2
      go_ret
      exact ⟨rfl, rfl⟩
    | false =>
      have e : encD d false = 97 + d - 10 := by simp [encD, h]; omega
      rw [e]
      go_enter Try.func8, Try.ntmps8
      go_wp2
      go_ret
      exact ⟨rfl, rfl⟩

/-- The value of the first k digits. -/
def val (d : Nat → Int) : Nat → Int
  | 0 => 0
  | k + 1 => val d k * 16 + d k

theorem val_bd (d : Nat → Int) (hd : ∀ k, 0 ≤ d k ∧ d k < 16) : ∀ k, k ≤ 4 → 0 ≤ val d k ∧ val d k < 65536 := by
  have h0 := hd 0; have h1 := hd 1; have h2 := hd 2; have h3 := hd 3
  intro k hk
  have : k = 0 ∨ k = 1 ∨ k = 2 ∨ k = 3 ∨ k = 4 := by omega
  rcases this with rfl | rfl | rfl | rfl | rfl <;> simp only [val] <;> omega

theorem val_small (d : Nat → Int) (hd : ∀ k, 0 ≤ d k ∧ d k < 16) : ∀ k, k < 4 → 0 ≤ val d k ∧ val d k < 4096 := by
  have h0 := hd 0; have h1 := hd 1; have h2 := hd 2; have h3 := hd 3
  intro k hk
  have : k = 0 ∨ k = 1 ∨ k = 2 ∨ k = 3 := by omega
  rcases this with rfl | rfl | rfl | rfl <;> simp only [val] <;> omega

theorem or4 (r x : Int) (h0 : 0 ≤ r) (h1 : r < 4096) (h2 : 0 ≤ x) (h3 : x < 16) : bits .or .i32 (r * 16) x = r * 16 + x := by
  obtain ⟨a, rfl⟩ := Int.eq_ofNat_of_zero_le h0
  obtain ⟨b, rfl⟩ := Int.eq_ofNat_of_zero_le h2
  have e : ((a : Int) * 16) = ((a * 16 : Nat) : Int) := by simp
  rw [e, (bits_nat .i32 31 (by decide) wraps_i32 (a * 16) b (by omega) (by omega)).2]
  have h := Nat.two_pow_add_eq_or_of_lt (b := b) (i := 4) (by omega) a
  rw [show a * 16 = 2 ^ 4 * a by omega, ← h]
  omega

theorem ret_two {k : IntKind} {a b : Int} (h : a = b) : Value.int k a = Value.int k b := by rw [h]

theorem hex4_any (g n cap : Nat) (d : Nat → Int) (u : Nat → Bool) (w : World) (hn : 4 ≤ n) (hnc : n ≤ cap) (hcap : cap ≤ 4194304) (hd : ∀ k, 0 ≤ d k ∧ d k < 16)
    (hc : ∀ k, k < 4 → w.cell? ⟨g, k, none⟩ = some (.int .u8 (encD (d k) (u k)))) :
    Calls Try.prog 18 #[.slice (some ⟨g, 0, none⟩) n cap] w fun e w' => e = .returned (.tuple #[.int .i32 (val d 4), .bool true]) ∧ w = w' := by
  have HC : Hid (∀ k, k < 4 → w.cell? ⟨g, k, none⟩ = some (.int .u8 (encD (d k) (u k)))) := hc
  have HD : Hid (∀ k, 0 ≤ d k ∧ d k < 16) := hd
  clear hc hd
  go_enter Try.func18, Try.ntmps18
  go_wp2
  go_loop [4, 13] (fun r i => ∃ k : Nat, k ≤ 4 ∧ i = .int .i64 k ∧ r = .int .i32 (val d k)) (fun _ i => 4 - (intOf i).toNat)
  case atStart => exact ⟨0, Nat.zero_le _, rfl, rfl⟩
  case round =>
    obtain ⟨k, hk, rfl, rfl⟩ := hrel
    by_cases hlt : k < 4
    · have hdk := HD.out k
      have hv := val_small d HD.out k hlt
      have hck := HC.out k hlt
      have HV : Hid (val d (k + 1) = val d k * 16 + d k) := rfl
      generalize val d k = r at *
      generalize d k = dk at *
      by_cases h1 : dk < 10
      · have e : encD dk (u k) = 48 + dk := by simp [encD, h1]
        rw [e] at hck
        clear e
        go_wp2
        go_round
        case rel => exact ⟨k + 1, by omega, by go_num, by rw [HV.out, or4 _ _ hv.1 hv.2 (by omega) (by omega)]; exact ret_two (by omega)⟩
        case measure => simp [intOf]; omega
      · cases hu : u k with
        | true =>
          have e : encD dk true = 55 + dk := by simp [encD, h1]
          rw [hu, e] at hck
          clear e
          go_wp2
          go_round
          case rel => exact ⟨k + 1, by omega, by go_num, by rw [HV.out, or4 _ _ hv.1 hv.2 (by omega) (by omega)]; exact ret_two (by omega)⟩
          case measure => simp [intOf]; omega
        | false =>
          have e : encD dk false = 87 + dk := by simp [encD, h1]
          rw [hu, e] at hck
          clear e
          go_wp2
          go_round
          case rel => exact ⟨k + 1, by omega, by go_num, by rw [HV.out, or4 _ _ hv.1 hv.2 (by omega) (by omega)]; exact ret_two (by omega)⟩
          case measure => simp [intOf]; omega
    · have hkk : k = 4 := by omega
      subst hkk
      go_wp2
      go_ret2
      exact ⟨rfl, rfl⟩

theorem zzHex4_any (g n cap : Nat) (d : Nat → Int) (u : Nat → Bool) (w : World) (hn : 4 ≤ n) (hnc : n ≤ cap) (hcap : cap ≤ 4194304) (hd : ∀ k, 0 ≤ d k ∧ d k < 16)
    (hc : ∀ k, k < 4 → w.cell? ⟨g, k, none⟩ = some (.int .u8 (encD (d k) (u k)))) :
    Calls Try.prog 9 #[.slice (some ⟨g, 0, none⟩) n cap] w fun e w' => e = .returned (.tuple #[.int .i32 (val d 4), .bool true]) ∧ w = w' := by
  have h := hex4_any g n cap d u w hn hnc hcap hd hc
  clear hc hd
  go_enter Try.func9, Try.ntmps9
  go_wp2_with (first | (go_at_call 18; refine h.mono ?_; rintro e w' ⟨rfl, rfl⟩))
  go_ret2
  exact ⟨rfl, rfl⟩
end Go.Proofs.Qxb6600040a
