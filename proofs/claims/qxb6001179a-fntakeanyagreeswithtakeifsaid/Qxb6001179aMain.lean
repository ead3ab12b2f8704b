/-
  Seat b6001179a. The walk of FnTakeAnyAgreesWithTakeIf (7).
-/
import Derived.Test.Qxb6001179aZZ
import Derived.Test.Qxb6001179aBytes
import Derived.Test.Qxb6001179aCopy
import Derived.WalkKit
import Derived.ProofKit
import Derived.Below
import Derived.Deep.OwnRows
import Derived.WalkSpells
namespace Go.Proofs.Qxb6001179a
open Go.ChangeShapes Go.WideShapes Go.ChangeAt Go.RowKit

theorem info3 : (Try.prog.info? 3).map (fun i => (i.zero, i.size, i.bytes)) = some (some (.int .i64 0), 1, 8) := by kernel_rfl
theorem info9 : (Try.prog.info? 9).map (fun i => (i.zero, i.size, i.bytes)) = some (some (.string ⟨#[]⟩), 1, 16) := by kernel_rfl
theorem size3 : (Try.prog.info? 3).map (·.size) = some 1 := by kernel_rfl
theorem size9 : (Try.prog.info? 9).map (·.size) = some 1 := by kernel_rfl

theorem ret_bool {a b : Bool} (h : a = b) : Ending.returned (.bool a) = .returned (.bool b) := by rw [h]

/-- What the tail of the law rests on: the copies, as they lie in world W. -/
structure Ready (w W : World) (bk bt : Nat) (a3 : Option Addr) (n m : Nat) (kz : Nat → Int) (ts os : Nat → ByteArray) : Prop where
  k : ∀ i, i < n → W.cell? ⟨bk, i, none⟩ = some (.int .i64 (kz i))
  t : ∀ i, i < n → W.cell? ⟨bt, i, none⟩ = some (.string (ts i))
  bk : bk < W.heap.size
  bt : bt < W.heap.size
  s : Strs W a3 m os
  old : Below w.heap.size w W

theorem Ready.below {w W W' : World} {bk bt : Nat} {a3 : Option Addr} {n m : Nat} {kz : Nat → Int} {ts os : Nat → ByteArray} (h : Ready w W bk bt a3 n m kz ts os) (hb : Below W.heap.size W W') : Ready w W' bk bt a3 n m kz ts os :=
  ⟨fun i hi => (hb.cell (p := ⟨bk, i, none⟩) h.bk).trans (h.k i hi), fun i hi => (hb.cell (p := ⟨bt, i, none⟩) h.bt).trans (h.t i hi), Nat.lt_of_lt_of_le h.bk hb.size, Nat.lt_of_lt_of_le h.bt hb.size, h.s.below hb, h.old.trans (hb.mono h.old.size)⟩

theorem ready_some {w w1 w2 w3 : World} {n m : Nat} {kz : Nat → Int} {ts os : Nat → ByteArray} (r1 : w1.rowIs w.heap.size 3 n (fun i => .int .i64 (kz i))) (b1 : Below w.heap.size w w1)
    (r2 : w2.rowIs w1.heap.size 9 n (fun i => .string (ts i))) (b2 : Below w1.heap.size w1 w2) (r3 : w3.rowIs w2.heap.size 9 m (fun i => .string (os i))) (b3 : Below w2.heap.size w2 w3) :
    Ready w w3 w.heap.size w1.heap.size (some ⟨w2.heap.size, 0, none⟩) n m kz ts os := by
  have h1 := r1.lt
  have h2 := r2.lt
  have h3 := r3.lt
  refine ⟨fun i hi => ?_, fun i hi => ?_, by have := b2.size; omega, by omega, fun i hi => ⟨w2.heap.size, 0, rfl, h3, by rw [Nat.zero_add]; exact r3.cell hi⟩, (b1.trans (b2.mono b1.size)).trans (b3.mono (Nat.le_trans b1.size b2.size))⟩
  · rw [b3.cell (p := ⟨w.heap.size, i, none⟩) (by show w.heap.size < _; omega), b2.cell (p := ⟨w.heap.size, i, none⟩) h1]; exact r1.cell hi
  · rw [b3.cell (p := ⟨w1.heap.size, i, none⟩) h2]; exact r2.cell hi

theorem ready_none {w w1 w2 : World} {n : Nat} {kz : Nat → Int} {ts os : Nat → ByteArray} (r1 : w1.rowIs w.heap.size 3 n (fun i => .int .i64 (kz i))) (b1 : Below w.heap.size w w1)
    (r2 : w2.rowIs w1.heap.size 9 n (fun i => .string (ts i))) (b2 : Below w1.heap.size w1 w2) :
    Ready w w2 w.heap.size w1.heap.size none n 0 kz ts os := by
  have h1 := r1.lt
  have h2 := r2.lt
  refine ⟨fun i hi => ?_, fun i hi => r2.cell hi, by omega, h2, fun i hi => absurd hi (Nat.not_lt_zero _), b1.trans (b2.mono b1.size)⟩
  rw [b2.cell (p := ⟨w.heap.size, i, none⟩) h1]; exact r1.cell hi

set_option maxHeartbeats 4000000 in
theorem deep_some (b0 off0 cap0 b1 off1 cap1 n X : Nat) (x3 : Addr) (m cap3 : Nat) (kz : Nat → Int) (ts os : Nat → ByteArray) (w : World) (hn : n ≤ 65536) (hX : X < n) (hm : m ≤ 65536)
    (hk : Elems w (some ⟨b0, off0, none⟩) n (fun i => .int .i64 (kz i))) (ht : Strs w (some ⟨b1, off1, none⟩) n ts) (hs : Strs w (some x3) m os) :
    Calls Try.prog 7 #[.slice (some ⟨b0, off0, none⟩) n cap0, .slice (some ⟨b1, off1, none⟩) n cap1, .int .i64 (X : Nat), .slice (some x3) m cap3] w fun e w' => e = .returned (.bool true) ∧ Below w.heap.size w w' := by
  have h16 := bytesTake_any (some ⟨b0, off0, none⟩) n cap0 (some ⟨b1, off1, none⟩) n cap1 ts X (some x3) m cap3 os w (by unfold maxLen; omega) (by unfold maxLen; omega) (by unfold maxLen; omega) ht hs
  have h14 := strBytes_any (some ⟨b1, off1, none⟩) n cap1 ts w ht (by unfold maxLen; omega)
  have h14' := strBytes_any (some x3) m cap3 os w hs (by unfold maxLen; omega)
  have hq25 := fun (w : World) a n c => run_neq_slice_nil_any (P := Try.prog) w 25 3 a n c 0 0 Try.underlying25
  have hq26 := fun (w : World) a n c => run_neq_slice_nil_any (P := Try.prog) w 26 9 a n c 0 0 Try.underlying26
  have hmk3 := run_make_row' (P := Try.prog) 25 3 (.int .i64 0) 8 Try.underlying25 info3 rfl .i64 .i64 n (by omega) (by omega)
  have hmk9 := run_make_row' (P := Try.prog) 26 9 (.string ⟨#[]⟩) 16 Try.underlying26 info9 rfl .i64 .i64 n (by omega) (by omega)
  have hmk9' := run_make_row' (P := Try.prog) 26 9 (.string ⟨#[]⟩) 16 Try.underlying26 info9 rfl .i64 .i64 m (by omega) (by omega)
  have HK : Hid (Elems w (some ⟨b0, off0, none⟩) n (fun i => .int .i64 (kz i))) := hk
  have HT : Hid (Strs w (some ⟨b1, off1, none⟩) n ts) := ht
  have HS : Hid (Strs w (some x3) m os) := hs
  clear hk ht hs
  have hX0 : ¬ (X : Int) < 0 := by omega
  have hX1 : ¬ (n : Int) ≤ (X : Int) := by omega
  go_enter Try.func7, Try.ntmps7
  go_wp2_with (first
    | (go_at_call 16; refine h16.mono ?_; rintro e w' ⟨⟨bb, rfl⟩, rfl⟩; clear h16)
    | (go_at_call 14; first | (refine h14.mono ?_; rintro e w' ⟨⟨y, rfl⟩, rfl⟩; clear h14) | (refine h14'.mono ?_; rintro e w' ⟨⟨y, rfl⟩, rfl⟩; clear h14'))
    | (show wpList _ _ _ ({ dst := some 72, op := _, type := _, pos := _, after := _, guard := _ } :: _) _ _; refine wpList_copy_new rfl (.tmp 70) (.tmp 71) 25 25 rfl 3 Try.underlying25 size3 (.int .i64 0) n (some ⟨b0, off0, none⟩) cap0 rfl rfl (fun i => .int .i64 (kz i)) HK.out (fun _ => rfl) ?_; intro w1 HR1 HB1; have hsz1 : w.heap.size < w1.heap.size := HR1.out.lt)
    | (show wpList _ _ _ ({ dst := some 81, op := _, type := _, pos := _, after := _, guard := _ } :: _) _ _; refine wpList_copy_new rfl (.tmp 79) (.tmp 80) 26 26 rfl 9 Try.underlying26 size9 (.string ⟨#[]⟩) n (some ⟨b1, off1, none⟩) cap1 rfl rfl (fun i => .string (ts i)) (HT.out.below HB1.out) (fun _ => rfl) ?_; intro w2 HR2 HB2; have hsz2 : w1.heap.size < w2.heap.size := HR2.out.lt)
    | (show wpList _ _ _ ({ dst := some 90, op := _, type := _, pos := _, after := _, guard := _ } :: _) _ _; refine wpList_copy_new rfl (.tmp 88) (.tmp 89) 26 26 rfl 9 Try.underlying26 size9 (.string ⟨#[]⟩) m (some x3) cap3 rfl rfl (fun i => .string (os i)) ((HS.out.below HB1.out).below HB2.out) (fun _ => rfl) ?_; intro w3 HR3 HB3; have hsz3 : w2.heap.size < w3.heap.size := HR3.out.lt))
  · go_ret
    exact ⟨rfl, Below.refl _ _⟩
  · go_ret
    exact ⟨rfl, Below.refl _ _⟩
  · have R : Hid (Ready w w3 w.heap.size w1.heap.size (some ⟨w2.heap.size, 0, none⟩) n m kz ts os) := ready_some HR1.out HB1.out HR2.out HB2.out HR3.out HB3.out
    clear HR1 HB1 HR2 HB2 HR3 HB3 hq25 hq26 hmk3 hmk9 hmk9' HK HT HS
    refine (zzTakeAny_any _ _ n X kz ts _ m _ os w3 hn hX hm R.out.k R.out.t R.out.bk R.out.bt R.out.s).mono ?_
    rintro e w4 ⟨rfl, hb4⟩
    have R4 : Hid (Ready w w4 w.heap.size w1.heap.size (some ⟨w2.heap.size, 0, none⟩) n m kz ts os) := R.out.below hb4
    clear R hb4
    go_wp2
    go_loopw [17, 18] (fun t i wr => ∃ k : Nat, k ≤ m ∧ i = .int .i64 k ∧ t = .bool (anyB (kz X) (ts X) os k) ∧ Hid (Ready w wr w.heap.size w1.heap.size (some ⟨w2.heap.size, 0, none⟩) n m kz ts os)) (fun _ i _ => m - (intOf i).toNat)
    case atStart => exact ⟨0, Nat.zero_le _, rfl, rfl, R4⟩
    case round =>
      clear R4
      obtain ⟨k, hk, rfl, rfl, R⟩ := hrel
      by_cases hlt : k < m
      · obtain ⟨b, off, hbo, hbl, hc⟩ := R.out.s k hlt
        obtain ⟨rfl, rfl⟩ : w2.heap.size = b ∧ 0 = off := by simpa using hbo
        clear hbo
        have h15 := zzTakeIf_any w.heap.size w1.heap.size n X kz ts (os k) wr hn hX R.out.k R.out.t R.out.bk R.out.bt
        rw [Nat.zero_add] at hc
        cases hh : hitB (kz X) (ts X) (os k) with
        | true =>
          rw [hh] at h15
          have HH : Hid (anyB (kz X) (ts X) os (k + 1) = true) := by show anyB (kz X) (ts X) os (k + 1) = true; simp [anyB, hh]
          clear hh
          go_wp2_with (first | (go_at_call 15; refine h15.mono ?_; rintro e w5 ⟨y5, rfl, hb5⟩; clear h15))
          go_roundw
          case rel => exact ⟨k + 1, by omega, by go_num, by rw [HH.out], R.out.below hb5⟩
          case measure => simp [intOf]; omega
        | false =>
          rw [hh] at h15
          have HH : Hid (anyB (kz X) (ts X) os (k + 1) = anyB (kz X) (ts X) os k) := by show anyB (kz X) (ts X) os (k + 1) = _; simp [anyB, hh]
          clear hh
          go_wp2_with (first | (go_at_call 15; refine h15.mono ?_; rintro e w5 ⟨y5, rfl, hb5⟩; clear h15))
          go_roundw
          case rel => exact ⟨k + 1, by omega, by go_num, by rw [HH.out], R.out.below hb5⟩
          case measure => simp [intOf]; omega
      · have hkk : k = m := by omega
        subst hkk
        have g1 := R.out.k X hX
        have g2 := R.out.t X hX
        go_wp2
        · have hA : anyB (kz X) (ts X) os k = true := by assumption
          go_ret
          exact ⟨ret_bool (by simp [adv]), R.out.old⟩
        · have hA : anyB (kz X) (ts X) os k = false := by assumption
          go_ret
          exact ⟨ret_bool (by simp [adv]), R.out.old⟩

set_option maxRecDepth 20000 in
set_option maxHeartbeats 4000000 in
theorem deep_none (b0 off0 cap0 b1 off1 cap1 n X : Nat) (kz : Nat → Int) (ts : Nat → ByteArray) (w : World) (hn : n ≤ 65536) (hX : X < n)
    (hk : Elems w (some ⟨b0, off0, none⟩) n (fun i => .int .i64 (kz i))) (ht : Strs w (some ⟨b1, off1, none⟩) n ts) :
    Calls Try.prog 7 #[.slice (some ⟨b0, off0, none⟩) n cap0, .slice (some ⟨b1, off1, none⟩) n cap1, .int .i64 (X : Nat), .slice none 0 0] w fun e w' => e = .returned (.bool true) ∧ Below w.heap.size w w' := by
  have hs : Strs w none 0 (fun _ => ByteArray.empty) := fun i hi => absurd hi (Nat.not_lt_zero _)
  have h16 := bytesTake_any (some ⟨b0, off0, none⟩) n cap0 (some ⟨b1, off1, none⟩) n cap1 ts X none 0 0 _ w (by unfold maxLen; omega) (by unfold maxLen; omega) (by unfold maxLen; omega) ht hs
  have h14 := strBytes_any (some ⟨b1, off1, none⟩) n cap1 ts w ht (by unfold maxLen; omega)
  have h14' := strBytes_any none 0 0 _ w hs (by unfold maxLen; omega)
  have hq25 := fun (w : World) a n c => run_neq_slice_nil_any (P := Try.prog) w 25 3 a n c 0 0 Try.underlying25
  have hq26 := fun (w : World) a n c => run_neq_slice_nil_any (P := Try.prog) w 26 9 a n c 0 0 Try.underlying26
  have hmk3 := run_make_row' (P := Try.prog) 25 3 (.int .i64 0) 8 Try.underlying25 info3 rfl .i64 .i64 n (by omega) (by omega)
  have hmk9 := run_make_row' (P := Try.prog) 26 9 (.string ⟨#[]⟩) 16 Try.underlying26 info9 rfl .i64 .i64 n (by omega) (by omega)
  have HK : Hid (Elems w (some ⟨b0, off0, none⟩) n (fun i => .int .i64 (kz i))) := hk
  have HT : Hid (Strs w (some ⟨b1, off1, none⟩) n ts) := ht
  clear hk ht hs
  have hX0 : ¬ (X : Int) < 0 := by omega
  have hX1 : ¬ (n : Int) ≤ (X : Int) := by omega
  go_enter Try.func7, Try.ntmps7
  go_wp2_with (first
    | (go_at_call 16; refine h16.mono ?_; rintro e w' ⟨⟨bb, rfl⟩, rfl⟩; clear h16)
    | (go_at_call 14; first | (refine h14.mono ?_; rintro e w' ⟨⟨y, rfl⟩, rfl⟩; clear h14) | (refine h14'.mono ?_; rintro e w' ⟨⟨y, rfl⟩, rfl⟩; clear h14'))
    | (show wpList _ _ _ ({ dst := some 72, op := _, type := _, pos := _, after := _, guard := _ } :: _) _ _; refine wpList_copy_new rfl (.tmp 70) (.tmp 71) 25 25 rfl 3 Try.underlying25 size3 (.int .i64 0) n (some ⟨b0, off0, none⟩) cap0 rfl rfl (fun i => .int .i64 (kz i)) HK.out (fun _ => rfl) ?_; intro w1 HR1 HB1; have hsz1 : w.heap.size < w1.heap.size := HR1.out.lt)
    | (show wpList _ _ _ ({ dst := some 81, op := _, type := _, pos := _, after := _, guard := _ } :: _) _ _; refine wpList_copy_new rfl (.tmp 79) (.tmp 80) 26 26 rfl 9 Try.underlying26 size9 (.string ⟨#[]⟩) n (some ⟨b1, off1, none⟩) cap1 rfl rfl (fun i => .string (ts i)) (HT.out.below HB1.out) (fun _ => rfl) ?_; intro w2 HR2 HB2; have hsz2 : w1.heap.size < w2.heap.size := HR2.out.lt))
  · go_ret
    exact ⟨rfl, Below.refl _ _⟩
  · go_ret
    exact ⟨rfl, Below.refl _ _⟩
  · have R : Hid (Ready w w2 w.heap.size w1.heap.size none n 0 kz ts (fun _ => ByteArray.empty)) := ready_none HR1.out HB1.out HR2.out HB2.out
    clear HR1 HB1 HR2 HB2 hq25 hq26 hmk3 hmk9 HK HT
    refine (zzTakeAny_any _ _ n X kz ts _ 0 _ _ w2 hn hX (Nat.zero_le _) R.out.k R.out.t R.out.bk R.out.bt R.out.s).mono ?_
    rintro e w4 ⟨rfl, hb4⟩
    have R4 : Hid (Ready w w4 w.heap.size w1.heap.size none n 0 kz ts (fun _ => ByteArray.empty)) := R.out.below hb4
    clear R hb4
    have hA : anyB (kz X) (ts X) (fun _ => ByteArray.empty) 0 = false := rfl
    have hE : adv false X = (X : Int) := rfl
    have g1 := R4.out.k X hX
    have g2 := R4.out.t X hX
    go_wp2
    go_loop [17, 18] (fun t i => t = .bool false ∧ i = .int .i64 0) (fun _ _ => 0)
    case atStart => exact ⟨rfl, rfl⟩
    case round =>
      obtain ⟨rfl, rfl⟩ := hrel
      go_wp2
      go_ret
      exact ⟨ret_bool (by simp), R4.out.old⟩

set_option maxHeartbeats 4000000 in
/-- One of the three slices is too long. -/
theorem long_any (a0 : Option Addr) (n cap0 : Nat) (a1 : Option Addr) (m1 cap1 : Nat) (ts : Nat → ByteArray) (x : Int) (a3 : Option Addr) (m cap3 : Nat) (os : Nat → ByteArray) (w : World)
    (hn : n ≤ maxLen) (hm1 : m1 ≤ maxLen) (hm : m ≤ maxLen) (ht : Strs w a1 m1 ts) (hs : Strs w a3 m os) (hl : 65536 < n ∨ 65536 < m1 ∨ 65536 < m) :
    Calls Try.prog 7 #[.slice a0 n cap0, .slice a1 m1 cap1, .int .i64 x, .slice a3 m cap3] w fun e w' => e = .returned (.bool true) ∧ Below w.heap.size w w' := by
  have h16 := bytesTake_any a0 n cap0 a1 m1 cap1 ts x a3 m cap3 os w hn hm1 hm ht hs
  unfold maxLen at hn hm1 hm
  clear ht hs
  by_cases h1 : 65536 < n
  · clear hl
    go_enter Try.func7, Try.ntmps7
    go_wp2_with (first | (go_at_call 16; refine h16.mono ?_; rintro e w' ⟨⟨bb, rfl⟩, rfl⟩; clear h16))
    all_goals (go_ret; exact ⟨rfl, Below.refl _ _⟩)
  by_cases h2 : 65536 < m1
  · clear hl
    go_enter Try.func7, Try.ntmps7
    go_wp2_with (first | (go_at_call 16; refine h16.mono ?_; rintro e w' ⟨⟨bb, rfl⟩, rfl⟩; clear h16))
    all_goals (go_ret; exact ⟨rfl, Below.refl _ _⟩)
  have h3 : 65536 < m := by omega
  clear hl
  go_enter Try.func7, Try.ntmps7
  go_wp2_with (first | (go_at_call 16; refine h16.mono ?_; rintro e w' ⟨⟨bb, rfl⟩, rfl⟩; clear h16))
  all_goals (go_ret; exact ⟨rfl, Below.refl _ _⟩)

set_option maxHeartbeats 4000000 in
/-- The lengths part, or 'next' lies outside. -/
theorem odd_any (a0 : Option Addr) (n cap0 : Nat) (a1 : Option Addr) (m1 cap1 : Nat) (ts : Nat → ByteArray) (x : Int) (a3 : Option Addr) (m cap3 : Nat) (os : Nat → ByteArray) (w : World)
    (hn : n ≤ 65536) (hm1 : m1 ≤ 65536) (hm : m ≤ 65536) (ht : Strs w a1 m1 ts) (hs : Strs w a3 m os) (hl : n ≠ m1 ∨ x < 0 ∨ n ≤ x) :
    Calls Try.prog 7 #[.slice a0 n cap0, .slice a1 m1 cap1, .int .i64 x, .slice a3 m cap3] w fun e w' => e = .returned (.bool true) ∧ Below w.heap.size w w' := by
  have h16 := bytesTake_any a0 n cap0 a1 m1 cap1 ts x a3 m cap3 os w (by unfold maxLen; omega) (by unfold maxLen; omega) (by unfold maxLen; omega) ht hs
  have h14 := strBytes_any a1 m1 cap1 ts w ht (by unfold maxLen; omega)
  have h14' := strBytes_any a3 m cap3 os w hs (by unfold maxLen; omega)
  clear ht hs
  by_cases h1 : n = m1
  · subst h1
    by_cases h2 : x < 0
    · clear hl
      go_enter Try.func7, Try.ntmps7
      go_wp2_with (first
        | (go_at_call 16; refine h16.mono ?_; rintro e w' ⟨⟨bb, rfl⟩, rfl⟩; clear h16)
        | (go_at_call 14; first | (refine h14.mono ?_; rintro e w' ⟨⟨y, rfl⟩, rfl⟩; clear h14) | (refine h14'.mono ?_; rintro e w' ⟨⟨y, rfl⟩, rfl⟩; clear h14')))
      all_goals (go_ret; exact ⟨rfl, Below.refl _ _⟩)
    · have h3 : (n : Int) ≤ x := by omega
      clear hl
      go_enter Try.func7, Try.ntmps7
      go_wp2_with (first
        | (go_at_call 16; refine h16.mono ?_; rintro e w' ⟨⟨bb, rfl⟩, rfl⟩; clear h16)
        | (go_at_call 14; first | (refine h14.mono ?_; rintro e w' ⟨⟨y, rfl⟩, rfl⟩; clear h14) | (refine h14'.mono ?_; rintro e w' ⟨⟨y, rfl⟩, rfl⟩; clear h14')))
      all_goals (go_ret; exact ⟨rfl, Below.refl _ _⟩)
  · have h2 : ((n : Int) != (m1 : Int)) = true := by simp; omega
    clear hl h1
    go_enter Try.func7, Try.ntmps7
    go_wp2_with (first
      | (go_at_call 16; refine h16.mono ?_; rintro e w' ⟨⟨bb, rfl⟩, rfl⟩; clear h16)
      | (go_at_call 14; first | (refine h14.mono ?_; rintro e w' ⟨⟨y, rfl⟩, rfl⟩; clear h14) | (refine h14'.mono ?_; rintro e w' ⟨⟨y, rfl⟩, rfl⟩; clear h14')))
    all_goals (go_ret; exact ⟨rfl, Below.refl _ _⟩)

/-- THE LAW, WHATEVER THE INPUT. -/
theorem take_walk (a0 : Option Addr) (n cap0 : Nat) (kz : Nat → Int) (a1 : Option Addr) (m1 cap1 : Nat) (ts : Nat → ByteArray) (x : Int) (a3 : Option Addr) (m cap3 : Nat) (os : Nat → ByteArray) (w : World)
    (hn : n ≤ maxLen) (hm1 : m1 ≤ maxLen) (hm : m ≤ maxLen) (hk : Elems w a0 n (fun i => .int .i64 (kz i))) (ht : Strs w a1 m1 ts) (hs : Strs w a3 m os) (hnil : a3 = none → m = 0 ∧ cap3 = 0) :
    Calls Try.prog 7 #[.slice a0 n cap0, .slice a1 m1 cap1, .int .i64 x, .slice a3 m cap3] w fun e w' => e = .returned (.bool true) ∧ Below w.heap.size w w' := by
  by_cases hl : 65536 < n ∨ 65536 < m1 ∨ 65536 < m
  · exact long_any a0 n cap0 a1 m1 cap1 ts x a3 m cap3 os w hn hm1 hm ht hs hl
  by_cases ho : n ≠ m1 ∨ x < 0 ∨ n ≤ x
  · exact odd_any a0 n cap0 a1 m1 cap1 ts x a3 m cap3 os w (by omega) (by omega) (by omega) ht hs ho
  obtain rfl : n = m1 := by omega
  obtain ⟨X, rfl⟩ := Int.eq_ofNat_of_zero_le (a := x) (by omega)
  have hX : X < n := by omega
  obtain ⟨b0, off0, rfl, _, _⟩ := hk X hX
  obtain ⟨b1, off1, rfl, _, _⟩ := ht X hX
  cases a3 with
  | none =>
    obtain ⟨rfl, rfl⟩ := hnil rfl
    exact deep_none b0 off0 cap0 b1 off1 cap1 n X kz ts w (by omega) hX hk ht
  | some x3 => exact deep_some b0 off0 cap0 b1 off1 cap1 n X x3 m cap3 kz ts os w (by omega) hX (by omega) hk ht hs
end Go.Proofs.Qxb6001179a
