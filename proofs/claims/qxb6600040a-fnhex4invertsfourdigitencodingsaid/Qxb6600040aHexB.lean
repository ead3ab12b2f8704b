/-
  Seat b6600040a. The walk of FnHex4InvertsFourDigitEncoding (3).
-/
import Derived.Test.Qxb6600040aHexA
import Derived.WalkKit
import Derived.ProofKit
import Derived.Below
import Derived.OwnWalk
import Derived.Laws.BitsAllLaws
namespace Go.Proofs.Qxb6600040a
open Go.ChangeShapes Go.WideShapes Go.ChangeAt Go.RowKit
set_option linter.unusedVariables false

theorem info5 : (Try.prog.info? 5).map (fun i => (i.zero, i.size, i.bytes)) = some (some (.int .u8 0), 1, 1) := by kernel_rfl

/-- The elements of a slice whose elements are one cell each, wherever they lie: element i is f i. -/
def Elems (w : World) (a : Option Addr) (n : Nat) (f : Nat → Value) : Prop :=
  ∀ i, i < n → ∃ b off, a = some ⟨b, off, none⟩ ∧ b < w.heap.size ∧ w.cell? ⟨b, off + i, none⟩ = some (f i)

theorem Elems.below {w w' : World} {a : Option Addr} {n : Nat} {f : Nat → Value} (h : Elems w a n f) (hb : Below w.heap.size w w') : Elems w' a n f := fun i hi => by
  obtain ⟨b, off, ha, hlt, hc⟩ := h i hi
  exact ⟨b, off, ha, Nat.lt_of_lt_of_le hlt hb.size, (hb.cell (p := ⟨b, off + i, none⟩) hlt).trans hc⟩

/-- It returns some bool. -/
def RetBool (e : Ending) : Prop := ∃ b : Bool, e = .returned (.bool b)

theorem hexBytes_any (v m : Int) (a : Option Addr) (n c : Nat) (w : World) (hn : n ≤ maxLen) :
    Calls Try.prog 7 #[.int .u16 v, .int .u8 m, .slice a n c] w fun e w' => RetBool e ∧ w = w' := by
  unfold maxLen at hn
  go_enter Try.func7, Try.ntmps7
  go_wp2
  all_goals (go_ret; exact ⟨⟨_, rfl⟩, rfl⟩)

/-- The digit k of v, the highest first. -/
def dg (v : Int) : Nat → Int
  | 0 => v / 4096 % 16
  | 1 => v / 256 % 16
  | 2 => v / 16 % 16
  | _ => v % 16

theorem dg_bd (v : Int) (k : Nat) : 0 ≤ dg v k ∧ dg v k < 16 := by
  match k with
  | 0 => simp only [dg]; omega
  | 1 => simp only [dg]; omega
  | 2 => simp only [dg]; omega
  | k + 3 => simp only [dg]; omega

theorem val_dg (v : Int) (h0 : 0 ≤ v) (h1 : v < 65536) : val (dg v) 4 = v := by
  simp only [val, dg]
  omega

theorem and15 (x : Int) (h0 : 0 ≤ x) (h1 : x < 65536) : bits BinOp.and IntKind.u16 x 15 % 256 = x % 16 := by
  obtain ⟨a, rfl⟩ := Int.eq_ofNat_of_zero_le h0
  have h := u16_and_nat a 15 (by omega) (by decide)
  have e : ((15 : Nat) : Int) = 15 := rfl
  rw [e] at h
  rw [h, Nat.and_two_pow_sub_one_eq_mod a 4]
  omega

theorem dg_and0 (v : Int) (h0 : 0 ≤ v) (h1 : v < 65536) : bits BinOp.and IntKind.u16 (v / 4096) 15 % 256 = dg v 0 := and15 _ (by omega) (by omega)
theorem dg_and1 (v : Int) (h0 : 0 ≤ v) (h1 : v < 65536) : bits BinOp.and IntKind.u16 (v / 256) 15 % 256 = dg v 1 := and15 _ (by omega) (by omega)
theorem dg_and2 (v : Int) (h0 : 0 ≤ v) (h1 : v < 65536) : bits BinOp.and IntKind.u16 (v / 16) 15 % 256 = dg v 2 := and15 _ (by omega) (by omega)
theorem dg_and3 (v : Int) (h0 : 0 ≤ v) (h1 : v < 65536) : bits BinOp.and IntKind.u16 v 15 % 256 = dg v 3 := and15 _ (by omega) (by omega)

/-- The first k cells hold the first k digits of v, each in some case. -/
def Digs (v : Int) (k : Nat) (xs : List Value) : Prop := ∀ j, j < k → ∃ up, xs[j]? = some (.int .u8 (encD (dg v j) up))

theorem digs_step {v : Int} {k : Nat} {xs : List Value} (h : Digs v k xs) (hl : xs.length = k * 1) (up : Bool) : Digs v (k + 1) (xs ++ [.int .u8 (encD (dg v k) up)]) := fun j hj => by
  by_cases e : j = k
  · subst e
    exact ⟨up, by rw [List.getElem?_append_right (by omega), show j - xs.length = 0 by omega]; rfl⟩
  · obtain ⟨u, hu⟩ := h j (by omega)
    exact ⟨u, by rw [List.getElem?_append_left (by omega)]; exact hu⟩

theorem digs_more {v : Int} {k : Nat} {xs : List Value} (h : Digs v k xs) (ys : List Value) : Digs v k (xs ++ ys) := fun j hj => by
  obtain ⟨u, hu⟩ := h j hj
  exact ⟨u, by rw [List.getElem?_append_left (List.getElem?_eq_some_iff.1 hu).1]; exact hu⟩

theorem below_step {w wr w3 : World} {o : Obj} (hb : Below w.heap.size w wr) (hg : (wr.alloc o).grownBy w3 (some w.heap.size)) : Below w.heap.size w w3 :=
  (hb.alloc hb.size o).grown hg (by have := hb.size; simp; omega) (fun k hk => by cases hk; exact Nat.le_refl _)

theorem one_new (w : World) (v : Value) (t : TypeId) : ∀ j u, [v][j]? = some u → (w.alloc (.cells #[v] t)).cell? ((⟨w.heap.size, 0, none⟩ : Addr).add j) = some u := by
  intro j u hj
  match j, hj with
  | 0, hj => simp at hj; subst hj; simp [Addr.add]

theorem one_cell (n : Int) : ∀ u ∈ [Value.int .u8 n], u.oneCell' = true := by
  intro u hu
  simp at hu
  subst hu
  rfl

theorem digs_fun {v : Int} {xs : List Value} (h : Digs v 4 xs) : ∃ u : Nat → Bool, ∀ k, k < 4 → xs[k]? = some (.int .u8 (encD (dg v k) (u k))) := by
  obtain ⟨u0, h0⟩ := h 0 (by omega)
  obtain ⟨u1, h1⟩ := h 1 (by omega)
  obtain ⟨u2, h2⟩ := h 2 (by omega)
  obtain ⟨u3, h3⟩ := h 3 (by omega)
  refine ⟨fun k => if k = 0 then u0 else if k = 1 then u1 else if k = 2 then u2 else u3, fun k hk => ?_⟩
  have : k = 0 ∨ k = 1 ∨ k = 2 ∨ k = 3 := by omega
  rcases this with rfl | rfl | rfl | rfl
  · exact h0
  · exact h1
  · exact h2
  · exact h3

theorem owns_cell {w : World} {base g n cap : Nat} {e : TypeId} {xs : List Value} (h : w.ownsRow base e 1 (.slice (some ⟨g, 0, none⟩) n cap) n xs) {k : Nat} {v : Value} (hk : xs[k]? = some v) : w.cell? ⟨g, k, none⟩ = some v := by
  rcases h.2 with ⟨h0, _⟩ | ⟨g', cap', cur, hv, _, hg, _, _, _, ht⟩
  · cases h0
  · simp only [Value.slice.injEq, Option.some.injEq, Addr.mk.injEq, and_true] at hv
    obtain ⟨rfl, _, _⟩ := hv
    have hkl := (List.getElem?_eq_some_iff.1 hk).1
    rw [← ht] at hk
    rw [List.getElem?_take] at hk
    split at hk
    · simp only [World.cell?, hg]
      simpa using hk
    · cases hk

set_option maxHeartbeats 4000000 in
theorem hex_deep (v m : Int) (a : Option Addr) (n c : Nat) (f : Nat → Int) (w : World) (hn : n ≤ 1048576) (hv0 : 0 ≤ v) (hv1 : v < 65536) (hm0 : 0 ≤ m) (hm1 : m < 256) (hE : Elems w a n (fun i => .int .u8 (f i))) :
    Calls Try.prog 3 #[.int .u16 v, .int .u8 m, .slice a n c] w fun e w' => e = .returned (.bool true) ∧ Below w.heap.size w w' := by
  have h7 := hexBytes_any v m a n c w (by unfold maxLen; omega)
  obtain ⟨i0, hi, hz0, hz1, hz2⟩ := info_parts info5
  have HE : Hid (Elems w a n (fun i => .int .u8 (f i))) := hE
  clear hE
  go_enter Try.func3, Try.ntmps3
  go_wp2_with (first
    | (go_at_call 7; refine h7.mono ?_; rintro e w' ⟨⟨bb, rfl⟩, rfl⟩; clear h7)
    | (at_make; refine wpList_make_own _ rfl _ _ 23 rfl w.heap.size 5 i0 (.int .u8 0) 1 Try.underlying23 hi hz0 hz1 _ _ _ (4 + n) rfl rfl (by omega) (by rw [hz2]; omega) (by unfold maxLen; omega) (Nat.le_refl _) ?_; intro w1 hown hgrow))
  · go_ret
    exact ⟨rfl, Below.refl _ _⟩
  · have hB1 : Below w.heap.size w w1 := (Below.refl _ _).grown hgrow (Nat.le_refl _) (fun k hk => by cases hk)
    have HO1 : Hid (w1.ownsRow w.heap.size 5 1 (.slice (some ⟨w.heap.size, 0, none⟩) 0 (4 + n)) 0 []) := hown
    have HB1 : Hid (Below w.heap.size w w1) := hB1
    clear hown hgrow hB1
    go_loopw [7, 8] (fun t i wr => ∃ (k : Nat) (xs : List Value), k ≤ 4 ∧ i = .int .i64 k ∧ t = .slice (some ⟨w.heap.size, 0, none⟩) k (4 + n) ∧ Hid (wr.ownsRow w.heap.size 5 1 (.slice (some ⟨w.heap.size, 0, none⟩) k (4 + n)) k xs) ∧ Hid (Digs v k xs) ∧ Hid (Below w.heap.size w wr)) (fun _ i _ => 4 - (intOf i).toNat)
    case atStart => exact ⟨0, [], Nat.zero_le _, rfl, rfl, HO1, fun j hj => absurd hj (Nat.not_lt_zero _), HB1⟩
    case round =>
      clear HO1 HB1
      obtain ⟨k, xs, hk, rfl, rfl, HO, HD, HB⟩ := hrel
      have hk4 : k = 0 ∨ k = 1 ∨ k = 2 ∨ k = 3 ∨ k = 4 := by omega
      rcases hk4 with rfl | rfl | rfl | rfl | rfl
      · have hd := dg_and0 v hv0 hv1
        go_wp2_with (first
          | (go_at_call 8; refine (encode_any _ _ _ (dg_bd v 0).1 (dg_bd v 0).2).mono ?_; rintro e w2 ⟨rfl, rfl⟩)
          | (at_builtin; refine wpList_append_fits _ rfl (.tmp 37) (.tmp 46) 23 rfl w.heap.size 5 i0 1 Try.underlying23 hi hz1 w.heap.size 0 (4 + n) xs rfl (HO.out.alloc _) ⟨wr.heap.size, 0, none⟩ 1 1 [.int .u8 (encD (dg v 0) (bits BinOp.and IntKind.u8 m 1 == 1))] rfl rfl (one_new _ _ _) (one_cell _) (by omega) ?_; intro w3 hown3 hgrow3))
        go_roundw
        case rel => exact ⟨0 + 1, _, by omega, by go_num, rfl, hown3, digs_step HD.out HO.out.1 (bits BinOp.and IntKind.u8 m 1 == 1), below_step HB.out hgrow3⟩
        case measure => simp [intOf]
      · have hd := dg_and1 v hv0 hv1
        go_wp2_with (first
          | (go_at_call 8; refine (encode_any _ _ _ (dg_bd v 1).1 (dg_bd v 1).2).mono ?_; rintro e w2 ⟨rfl, rfl⟩)
          | (at_builtin; refine wpList_append_fits _ rfl (.tmp 37) (.tmp 46) 23 rfl w.heap.size 5 i0 1 Try.underlying23 hi hz1 w.heap.size 1 (4 + n) xs rfl (HO.out.alloc _) ⟨wr.heap.size, 0, none⟩ 1 1 [.int .u8 (encD (dg v 1) (bits BinOp.and IntKind.u8 (m / 2) 1 == 1))] rfl rfl (one_new _ _ _) (one_cell _) (by omega) ?_; intro w3 hown3 hgrow3))
        go_roundw
        case rel => exact ⟨1 + 1, _, by omega, by go_num, rfl, hown3, digs_step HD.out HO.out.1 (bits BinOp.and IntKind.u8 (m / 2) 1 == 1), below_step HB.out hgrow3⟩
        case measure => simp [intOf]
      · have hd := dg_and2 v hv0 hv1
        go_wp2_with (first
          | (go_at_call 8; refine (encode_any _ _ _ (dg_bd v 2).1 (dg_bd v 2).2).mono ?_; rintro e w2 ⟨rfl, rfl⟩)
          | (at_builtin; refine wpList_append_fits _ rfl (.tmp 37) (.tmp 46) 23 rfl w.heap.size 5 i0 1 Try.underlying23 hi hz1 w.heap.size 2 (4 + n) xs rfl (HO.out.alloc _) ⟨wr.heap.size, 0, none⟩ 1 1 [.int .u8 (encD (dg v 2) (bits BinOp.and IntKind.u8 (m / 4) 1 == 1))] rfl rfl (one_new _ _ _) (one_cell _) (by omega) ?_; intro w3 hown3 hgrow3))
        go_roundw
        case rel => exact ⟨2 + 1, _, by omega, by go_num, rfl, hown3, digs_step HD.out HO.out.1 (bits BinOp.and IntKind.u8 (m / 4) 1 == 1), below_step HB.out hgrow3⟩
        case measure => simp [intOf]
      · have hd := dg_and3 v hv0 hv1
        go_wp2_with (first
          | (go_at_call 8; refine (encode_any _ _ _ (dg_bd v 3).1 (dg_bd v 3).2).mono ?_; rintro e w2 ⟨rfl, rfl⟩)
          | (at_builtin; refine wpList_append_fits _ rfl (.tmp 37) (.tmp 46) 23 rfl w.heap.size 5 i0 1 Try.underlying23 hi hz1 w.heap.size 3 (4 + n) xs rfl (HO.out.alloc _) ⟨wr.heap.size, 0, none⟩ 1 1 [.int .u8 (encD (dg v 3) (bits BinOp.and IntKind.u8 (m / 8) 1 == 1))] rfl rfl (one_new _ _ _) (one_cell _) (by omega) ?_; intro w3 hown3 hgrow3))
        go_roundw
        case rel => exact ⟨3 + 1, _, by omega, by go_num, rfl, hown3, digs_step HD.out HO.out.1 (bits BinOp.and IntKind.u8 (m / 8) 1 == 1), below_step HB.out hgrow3⟩
        case measure => simp [intOf]
      · go_wp2
        go_loopw [7, 10] (fun t i wr => ∃ (j : Nat) (ys : List Value), j ≤ n ∧ i = .int .i64 j ∧ t = .slice (some ⟨w.heap.size, 0, none⟩) (4 + j) (4 + n) ∧ Hid (wr.ownsRow w.heap.size 5 1 (.slice (some ⟨w.heap.size, 0, none⟩) (4 + j) (4 + n)) (4 + j) ys) ∧ Hid (Digs v 4 ys) ∧ Hid (Below w.heap.size w wr)) (fun _ i _ => n - (intOf i).toNat)
        case atStart => exact ⟨0, xs, Nat.zero_le _, rfl, rfl, HO, HD, HB⟩
        case round =>
          clear HO HD HB xs
          obtain ⟨j, ys, hj, rfl, rfl, HO, HD, HB⟩ := hrel
          by_cases hlt : j < n
          · obtain ⟨b, off, rfl, hbl, hc⟩ := (HE.out.below HB.out) j hlt
            go_wp2_with (first
              | (at_builtin; refine wpList_append_fits _ rfl (.tmp 54) (.tmp 59) 23 rfl w.heap.size 5 i0 1 Try.underlying23 hi hz1 w.heap.size (4 + j) (4 + n) ys rfl (HO.out.alloc _) ⟨wr.heap.size, 0, none⟩ 1 1 [.int .u8 (f j)] rfl rfl (one_new _ _ _) (one_cell _) (by omega) ?_; intro w3 hown3 hgrow3))
            go_roundw
            case rel => exact ⟨j + 1, by omega, by omega, by omega, _, hown3, digs_more HD.out _, below_step HB.out hgrow3⟩
            case measure => simp [intOf]; omega
          · have hjn : j = n := by omega
            subst hjn
            obtain ⟨u, hu⟩ := digs_fun HD.out
            have h9 := zzHex4_any w.heap.size (4 + j) (4 + j) (dg v) u wr (by omega) (Nat.le_refl _) (by omega) (dg_bd v) (fun k hk => owns_cell HO.out (hu k hk))
            rw [val_dg v hv0 hv1] at h9
            clear hu HO HD
            go_wp2_with (first | (go_at_call 9; refine h9.mono ?_; rintro e w' ⟨rfl, rfl⟩; clear h9))
            go_ret
            exact ⟨rfl, HB.out⟩

theorem hex_long (v m : Int) (a : Option Addr) (n c : Nat) (w : World) (hn : n ≤ maxLen) (hl : 1048576 < n) :
    Calls Try.prog 3 #[.int .u16 v, .int .u8 m, .slice a n c] w fun e w' => e = .returned (.bool true) ∧ Below w.heap.size w w' := by
  have h7 := hexBytes_any v m a n c w hn
  unfold maxLen at hn
  go_enter Try.func3, Try.ntmps3
  go_wp2_with (first | (go_at_call 7; refine h7.mono ?_; rintro e w' ⟨⟨bb, rfl⟩, rfl⟩; clear h7))
  all_goals (go_ret; exact ⟨rfl, Below.refl _ _⟩)

theorem hex_walk (v m : Int) (a : Option Addr) (n c : Nat) (f : Nat → Int) (w : World) (hn : n ≤ maxLen) (hv0 : 0 ≤ v) (hv1 : v < 65536) (hm0 : 0 ≤ m) (hm1 : m < 256) (hE : Elems w a n (fun i => .int .u8 (f i))) :
    Calls Try.prog 3 #[.int .u16 v, .int .u8 m, .slice a n c] w fun e w' => e = .returned (.bool true) ∧ Below w.heap.size w w' := by
  by_cases hl : 1048576 < n
  · exact hex_long v m a n c w hn hl
  · exact hex_deep v m a n c f w (by omega) hv0 hv1 hm0 hm1 hE
end Go.Proofs.Qxb6600040a
