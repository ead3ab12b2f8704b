/-
  Seat b6600040a. The walk of FnNumberMatchesAutomaton (5).
-/
import Derived.Test.Qxb6600040aNum
import Derived.Test.Qxb6600040aCopy
import Derived.WalkKit
import Derived.ProofKit
import Derived.Below
import Derived.Deep.OwnRows
import Derived.WalkSpells
namespace Go.Proofs.Qxb6600040a
open Go.ChangeShapes Go.WideShapes Go.ChangeAt Go.RowKit
set_option linter.unusedVariables false

theorem info5 : (Try.prog.info? 5).map (fun i => (i.zero, i.size, i.bytes)) = some (some (.int .u8 0), 1, 1) := by kernel_rfl
theorem size5 : (Try.prog.info? 5).map (·.size) = some 1 := by kernel_rfl

theorem text_of {w : World} {a : Option Addr} {n : Nat} {g : Nat → Int} (h : Elems w a n (fun i => .int .u8 (g i))) : Text w w.heap.size a n g := h

/-- What the last tests rest on. -/
theorem law_ends {g : Nat → Int} {n i : Nat} {ok : Bool} {q : Nat} {s : Int} {p : Nat} (hL : Law g n i ok q) (hh : halt g n 0 i = (s, p)) : ok = acc s ∧ (ok = true → q = p) ∧ i ≤ q ∧ (q ≤ n ∨ q = i) := by
  obtain ⟨h1, h2, h3, h4⟩ := hL
  rw [hh] at h1 h2
  exact ⟨h1, h2, h3, h4⟩

set_option maxRecDepth 20000 in
set_option maxHeartbeats 1000000 in
theorem num_some (x : Addr) (n c I : Nat) (g : Nat → Int) (w : World) (hn : n ≤ 1048576) (hI : I ≤ 9223372036854775807) (hE0 : Elems w (some x) n (fun i => .int .u8 (g i))) :
    Calls Try.prog 5 #[.slice (some x) n c, .int .i64 (I : Nat)] w fun e w' => e = .returned (.bool true) ∧ Below w.heap.size w w' := by
  have h12 := numBytes_any (some x) n c I w (by unfold maxLen; omega)
  have hq := fun (w : World) a n c => run_neq_slice_nil_any (P := Try.prog) w 23 5 a n c 0 0 Try.underlying23
  have hmk := run_make_row' (P := Try.prog) 23 5 (.int .u8 0) 1 Try.underlying23 info5 rfl .i64 .i64 n (by omega) (by omega)
  have HE0 : Hid (Elems w (some x) n (fun i => .int .u8 (g i))) := hE0
  have hI0 : ¬ (I : Int) < 0 := by omega
  clear hE0
  go_enter Try.func5, Try.ntmps5
  go_wp2_with (first
    | (go_at_call 12; refine h12.mono ?_; rintro e w' ⟨⟨bb, rfl⟩, rfl⟩; clear h12)
    | (show wpList _ _ _ ({ dst := some 27, op := _, type := _, pos := _, after := _, guard := _ } :: _) _ _; refine wpList_copy_new rfl (.tmp 25) (.tmp 26) 23 23 rfl 5 Try.underlying23 size5 (.int .u8 0) n (some x) c rfl rfl (fun i => .int .u8 (g i)) HE0.out (fun _ => rfl) ?_; intro w1 HR1 HB; have hsz1 : w.heap.size < w1.heap.size := HR1.out.lt))
  · go_ret
    exact ⟨rfl, Below.refl _ _⟩
  · have HE : Hid (Elems w1 (some ⟨w.heap.size, 0, none⟩) n (fun i => .int .u8 (g i))) := fun i hi => ⟨w.heap.size, 0, rfl, hsz1, by rw [Nat.zero_add]; exact HR1.out.cell hi⟩
    clear HR1 hq hmk HE0
    go_loop [6, 7] (fun t u => ∃ (s : Int) (p : Nat), t = .int .i64 s ∧ u = .int .i64 (p : Nat) ∧ 0 ≤ s ∧ s ≤ 8 ∧ Hid (halt g n s p = halt g n 0 I)) (fun _ u => n - (intOf u).toNat)
    case atStart => exact ⟨0, I, rfl, rfl, by omega, by omega, rfl⟩
    case round =>
      obtain ⟨s, p, rfl, rfl, hs0, hs8, HH0⟩ := hrel
      by_cases hlt : p < n
      · obtain ⟨b, off, hbo, hbl, hc⟩ := HE.out p hlt
        obtain ⟨rfl, rfl⟩ : w.heap.size = b ∧ 0 = off := by simpa using hbo
        rw [Nat.zero_add] at hc
        clear hbo
        have h13 := step_any s (g p) w1 hs0 hs8
        have hbd := stepF_bd s (g p)
        have hlt' : (p : Int) < (n : Int) := by omega
        by_cases hst : 0 ≤ stepF s (g p)
        · have HH : Hid (halt g n (stepF s (g p)) (p + 1) = halt g n 0 I) := (halt_move g n hlt hst).symm.trans HH0.out
          clear HH0
          generalize stepF s (g p) = t at *
          go_wp2_with (first | (go_at_call 13; refine h13.mono ?_; rintro e w' ⟨rfl, rfl⟩; clear h13))
          go_round
          case rel => exact ⟨t, p + 1, rfl, by go_num, hst, hbd.2, HH⟩
          case measure => simp [intOf]; omega
        · have HH : Hid (halt g n 0 I = (s, p)) := HH0.out.symm.trans (halt_stop g n (fun h => hst h.2))
          clear HH0
          generalize stepF s (g p) = t at *
          go_wp2_with (first | (go_at_call 13; refine h13.mono ?_; rintro e w' ⟨rfl, rfl⟩; clear h13))
          clear hc hbl
          have h14 := zznumber_any (some ⟨w.heap.size, 0, none⟩) n n I g w1 (by omega) hI (text_of HE.out)
          have h15 := fun wx => accepting_any s wx
          go_wp2_with fail
          refine h14.mono ?_
          rintro e w9 ⟨ok, q, rfl, hL, hb9⟩
          obtain ⟨l1, l2, l3, l4⟩ := law_ends hL HH.out
          have HB9 : Hid (Below w.heap.size w w9) := HB.out.trans (hb9.mono HB.out.size)
          have l5 : (I : Int) ≤ (q : Int) := by omega
          clear h14 hL hb9 HB HE HH l3
          cases ok with
          | true =>
            obtain rfl := l2 rfl
            have l6 : acc s = true := l1.symm
            clear l1 l2
            by_cases hqn : q ≤ n
            · have l7 : (q : Int) ≤ (n : Int) := by omega
              clear l4
              go_wp2_with (first | (go_at_call 15; refine (h15 _).mono ?_; rintro e w' ⟨rfl, rfl⟩; clear h15))
              all_goals (go_ret; exact ⟨ret_bool (by simp), HB9.out⟩)
            · obtain rfl : q = I := by omega
              clear l4
              go_wp2_with (first | (go_at_call 15; refine (h15 _).mono ?_; rintro e w' ⟨rfl, rfl⟩; clear h15))
              all_goals (go_ret; exact ⟨ret_bool (by simp), HB9.out⟩)
          | false =>
            have l6 : acc s = false := l1.symm
            clear l1 l2
            by_cases hqn : q ≤ n
            · have l7 : (q : Int) ≤ (n : Int) := by omega
              clear l4
              go_wp2_with (first | (go_at_call 15; refine (h15 _).mono ?_; rintro e w' ⟨rfl, rfl⟩; clear h15))
              all_goals (go_ret; exact ⟨ret_bool (by simp), HB9.out⟩)
            · obtain rfl : q = I := by omega
              clear l4
              go_wp2_with (first | (go_at_call 15; refine (h15 _).mono ?_; rintro e w' ⟨rfl, rfl⟩; clear h15))
              all_goals (go_ret; exact ⟨ret_bool (by simp), HB9.out⟩)
      · have HH : Hid (halt g n 0 I = (s, p)) := HH0.out.symm.trans (halt_stop g n (fun h => hlt h.1))
        clear HH0
        have hlt' : ¬ (p : Int) < (n : Int) := by omega
        have h14 := zznumber_any (some ⟨w.heap.size, 0, none⟩) n n I g w1 (by omega) hI (text_of HE.out)
        have h15 := fun wx => accepting_any s wx
        go_wp2_with fail
        refine h14.mono ?_
        rintro e w9 ⟨ok, q, rfl, hL, hb9⟩
        obtain ⟨l1, l2, l3, l4⟩ := law_ends hL HH.out
        have HB9 : Hid (Below w.heap.size w w9) := HB.out.trans (hb9.mono HB.out.size)
        have l5 : (I : Int) ≤ (q : Int) := by omega
        clear h14 hL hb9 HB HE HH l3
        cases ok with
        | true =>
          obtain rfl := l2 rfl
          have l6 : acc s = true := l1.symm
          clear l1 l2
          by_cases hqn : q ≤ n
          · have l7 : (q : Int) ≤ (n : Int) := by omega
            clear l4
            go_wp2_with (first | (go_at_call 15; refine (h15 _).mono ?_; rintro e w' ⟨rfl, rfl⟩; clear h15))
            all_goals (go_ret; exact ⟨ret_bool (by simp), HB9.out⟩)
          · obtain rfl : q = I := by omega
            clear l4
            go_wp2_with (first | (go_at_call 15; refine (h15 _).mono ?_; rintro e w' ⟨rfl, rfl⟩; clear h15))
            all_goals (go_ret; exact ⟨ret_bool (by simp), HB9.out⟩)
        | false =>
          have l6 : acc s = false := l1.symm
          clear l1 l2
          by_cases hqn : q ≤ n
          · have l7 : (q : Int) ≤ (n : Int) := by omega
            clear l4
            go_wp2_with (first | (go_at_call 15; refine (h15 _).mono ?_; rintro e w' ⟨rfl, rfl⟩; clear h15))
            all_goals (go_ret; exact ⟨ret_bool (by simp), HB9.out⟩)
          · obtain rfl : q = I := by omega
            clear l4
            go_wp2_with (first | (go_at_call 15; refine (h15 _).mono ?_; rintro e w' ⟨rfl, rfl⟩; clear h15))
            all_goals (go_ret; exact ⟨ret_bool (by simp), HB9.out⟩)

set_option maxHeartbeats 1000000 in
theorem num_none (I : Nat) (w : World) (hI : I ≤ 9223372036854775807) :
    Calls Try.prog 5 #[.slice none 0 0, .int .i64 (I : Nat)] w fun e w' => e = .returned (.bool true) ∧ Below w.heap.size w w' := by
  obtain ⟨g, hg0⟩ : ∃ g : Nat → Int, g = fun _ => 0 := ⟨_, rfl⟩
  clear hg0
  have h12 := numBytes_any none 0 0 I w (by unfold maxLen; omega)
  have hq := fun (w : World) a n c => run_neq_slice_nil_any (P := Try.prog) w 23 5 a n c 0 0 Try.underlying23
  have HE : Hid (Elems w none 0 (fun i => .int .u8 (g i))) := fun i hi => absurd hi (Nat.not_lt_zero _)
  have HB : Hid (Below w.heap.size w w) := Below.refl _ _
  have hI0 : ¬ (I : Int) < 0 := by omega
  go_enter Try.func5, Try.ntmps5
  go_wp2_with (first
    | (go_at_call 12; refine h12.mono ?_; rintro e w' ⟨⟨bb, rfl⟩, rfl⟩; clear h12))
  · go_ret
    exact ⟨rfl, Below.refl _ _⟩
  · clear hq
    go_loop [6, 7] (fun t u => t = .int .i64 0 ∧ u = .int .i64 (I : Nat)) (fun _ _ => 0)
    case atStart => exact ⟨rfl, rfl⟩
    case round =>
      obtain ⟨rfl, rfl⟩ := hrel
      have HH : Hid (halt g 0 0 I = (0, I)) := halt_stop g 0 (fun h => Nat.not_lt_zero _ h.1)
      have hlt' : ¬ (I : Int) < 0 := by omega
      have h14 := zznumber_any none 0 0 I g w (by omega) hI (text_of HE.out)
      have h15 := fun wx => accepting_any 0 wx
      go_wp2_with fail
      refine h14.mono ?_
      rintro e w9 ⟨ok, q, rfl, hL, hb9⟩
      obtain ⟨l1, l2, l3, l4⟩ := law_ends hL HH.out
      have HB9 : Hid (Below w.heap.size w w9) := HB.out.trans (hb9.mono HB.out.size)
      have l5 : (I : Int) ≤ (q : Int) := by omega
      clear h14 hL hb9 HB HE HH l3
      cases ok with
      | true => exact absurd l1 (by decide)
      | false =>
        have l6 : acc 0 = false := l1.symm
        clear l1 l2
        by_cases hqn : q ≤ 0
        · have l7 : (q : Int) ≤ 0 := by omega
          clear l4
          go_wp2_with (first | (go_at_call 15; refine (h15 _).mono ?_; rintro e w' ⟨rfl, rfl⟩; clear h15))
          all_goals (go_ret; exact ⟨ret_bool (by simp), HB9.out⟩)
        · obtain rfl : q = I := by omega
          clear l4
          go_wp2_with (first | (go_at_call 15; refine (h15 _).mono ?_; rintro e w' ⟨rfl, rfl⟩; clear h15))
          all_goals (go_ret; exact ⟨ret_bool (by simp), HB9.out⟩)

theorem num_long (a : Option Addr) (n c : Nat) (x : Int) (w : World) (hn : n ≤ maxLen) (hl : 1048576 < n) :
    Calls Try.prog 5 #[.slice a n c, .int .i64 x] w fun e w' => e = .returned (.bool true) ∧ Below w.heap.size w w' := by
  have h12 := numBytes_any a n c x w hn
  unfold maxLen at hn
  go_enter Try.func5, Try.ntmps5
  go_wp2_with (first | (go_at_call 12; refine h12.mono ?_; rintro e w' ⟨⟨bb, rfl⟩, rfl⟩; clear h12))
  all_goals (go_ret; exact ⟨rfl, Below.refl _ _⟩)

theorem num_neg (a : Option Addr) (n c : Nat) (x : Int) (w : World) (hn : n ≤ 1048576) (hl : x < 0) :
    Calls Try.prog 5 #[.slice a n c, .int .i64 x] w fun e w' => e = .returned (.bool true) ∧ Below w.heap.size w w' := by
  have h12 := numBytes_any a n c x w (by unfold maxLen; omega)
  go_enter Try.func5, Try.ntmps5
  go_wp2_with (first | (go_at_call 12; refine h12.mono ?_; rintro e w' ⟨⟨bb, rfl⟩, rfl⟩; clear h12))
  all_goals (go_ret; exact ⟨rfl, Below.refl _ _⟩)

/-- THE LAW, WHATEVER THE INPUT. -/
theorem num_walk (a : Option Addr) (n c : Nat) (x : Int) (g : Nat → Int) (w : World) (hn : n ≤ maxLen) (hx : x ≤ 9223372036854775807) (hE : Elems w a n (fun i => .int .u8 (g i))) (hnil : a = none → n = 0 ∧ c = 0) :
    Calls Try.prog 5 #[.slice a n c, .int .i64 x] w fun e w' => e = .returned (.bool true) ∧ Below w.heap.size w w' := by
  by_cases hl : 1048576 < n
  · exact num_long a n c x w hn hl
  by_cases h0 : x < 0
  · exact num_neg a n c x w (by omega) h0
  obtain ⟨I, rfl⟩ := Int.eq_ofNat_of_zero_le (a := x) (by omega)
  cases a with
  | none =>
    obtain ⟨rfl, rfl⟩ := hnil rfl
    exact num_none I w (by omega)
  | some y => exact num_some y n c I g w (by omega) (by omega) hE
end Go.Proofs.Qxb6600040a
