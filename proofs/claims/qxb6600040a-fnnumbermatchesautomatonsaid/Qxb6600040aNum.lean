/-
  Seat b6600040a. The contracts of the scanner's number (19) and of ZZNumber (14).
-/
import Derived.Test.Qxb6600040aScan
import Derived.WalkKit
import Derived.ProofKit
import Derived.Below
import Derived.RegionTactic
import Derived.ChangeAlike
import Derived.Deep.QuietTactic
import Derived.BigQuiet
namespace Go.Proofs.Qxb6600040a
open Go.ChangeShapes Go.WideShapes Go.ChangeAt Go.RowKit
set_option linter.unusedVariables false

/-- How number ends: its answer and the place where it stopped are as the law asks. -/
def NumEnd (w0 : World) (bp : Nat) (a : Option Addr) (n c i : Nat) (g : Nat → Int) (e : Ending) (w' : World) : Prop :=
  ∃ (ok : Bool) (q : Nat), e = .returned (.bool ok) ∧ Law g n i ok q ∧ Scan w0 w' bp a n c q

/-- The optional sign. -/
def SignEnd (w0 : World) (bp : Nat) (a : Option Addr) (n c i : Nat) (g : Nat → Int) (e : Ending) (w' : World) : Prop :=
  ∃ (b : Bool) (p1 : Nat), e = .returned (.bool b) ∧ Sign g n i p1 ∧ Scan w0 w' bp a n c p1

theorem byte_sign (w0 : World) (bp : Nat) (a : Option Addr) (n c i : Nat) (g : Nat → Int) (w : World) (hn : n ≤ 1048576) (ht : Text w0 bp a n g) (hS : Scan w0 w bp a n c i) :
    Calls Try.prog 20 #[.pointer (some ⟨bp, 0, none⟩), .int .u8 45] w fun e w' => SignEnd w0 bp a n c i g e w' := by
  by_cases h : At g n i 45
  · refine (byte_yes w0 bp a n c i g 45 w hn ht hS h).mono ?_
    rintro e w' ⟨rfl, h1⟩
    exact ⟨_, _, rfl, sign_yes g n h, h1⟩
  · refine (byte_no w0 bp a n c i g 45 w hn ht hS h).mono ?_
    rintro e w' ⟨rfl, h1⟩
    exact ⟨_, _, rfl, sign_no g n h, h1⟩

/-- The exponent's optional minus. -/
def MinusEnd (w0 : World) (bp : Nat) (a : Option Addr) (n c i : Nat) (g : Nat → Int) (e : Ending) (w' : World) : Prop :=
  ∃ (b : Bool) (p5 : Nat), e = .returned (.bool b) ∧ ExpS g n i p5 ∧ Scan w0 w' bp a n c p5

theorem byte_minus (w0 : World) (bp : Nat) (a : Option Addr) (n c i p4 : Nat) (g : Nat → Int) (w : World) (hn : n ≤ 1048576) (ht : Text w0 bp a n g) (hS : Scan w0 w bp a n c p4) (hx : Expo g n i p4) (hp : ¬ At g n p4 43) :
    Calls Try.prog 20 #[.pointer (some ⟨bp, 0, none⟩), .int .u8 45] w fun e w' => MinusEnd w0 bp a n c i g e w' := by
  by_cases h : At g n p4 45
  · refine (byte_yes w0 bp a n c p4 g 45 w hn ht hS h).mono ?_
    rintro e w' ⟨rfl, h1⟩
    exact ⟨_, _, rfl, exps_yes g n hx (.inr h), h1⟩
  · refine (byte_no w0 bp a n c p4 g 45 w hn ht hS h).mono ?_
    rintro e w' ⟨rfl, h1⟩
    exact ⟨_, _, rfl, exps_no g n hx hp h, h1⟩

/-- The digits, parted: none, or some. -/
theorem digits_none (w0 : World) (bp : Nat) (a : Option Addr) (n c p : Nat) (g : Nat → Int) (w : World) (hn : n ≤ 1048576) (hp : p ≤ 9223372036854775807) (ht : Text w0 bp a n g) (hS : Scan w0 w bp a n c p) :
    Calls Try.prog 21 #[.pointer (some ⟨bp, 0, none⟩)] w fun e w' =>
      (e = .returned (.int .i64 0) ∧ DRun g n p p ∧ Scan w0 w' bp a n c p) ∨ (∃ (q : Nat) (z : Int), e = .returned (.int .i64 z) ∧ (z == 0) = false ∧ DRun g n p q ∧ p < q ∧ Scan w0 w' bp a n c q) := by
  refine (digits_any w0 bp a n c p g w hn hp ht hS).mono ?_
  rintro e w' ⟨q, rfl, hr, h1⟩
  by_cases h : q = p
  · subst h
    exact .inl ⟨by rw [show (q : Int) - (q : Int) = 0 by omega], hr, h1⟩
  · have := hr.le
    exact .inr ⟨q, _, rfl, by simp; omega, hr, by omega, h1⟩

set_option maxHeartbeats 4000000 in
theorem number_any (w0 : World) (bp : Nat) (a : Option Addr) (n c i : Nat) (g : Nat → Int) (w : World) (hn : n ≤ 1048576) (hi : i ≤ 9223372036854775807) (ht : Text w0 bp a n g) (hS : Scan w0 w bp a n c i) :
    Calls Try.prog 19 #[.pointer (some ⟨bp, 0, none⟩)] w fun e w' => NumEnd w0 bp a n c i g e w' := by
  have HT : Hid (Text w0 bp a n g) := ht
  clear ht
  go_enter Try.func19, Try.ntmps19
  go_wp2_with fail
  refine (byte_sign w0 bp a n c i g _ hn HT.out hS).mono ?_
  clear hS
  rintro e w1 ⟨b1, p1, rfl, hSg, hS⟩
  have HSg : Hid (Sign g n i p1) := hSg
  have HS : Hid (Scan w0 w1 bp a n c p1) := hS
  have hp1 : p1 ≤ 9223372036854775807 := by obtain ⟨s, _, _, h1, h2⟩ := hSg; omega
  clear hSg hS
  go_wp2_with fail
  by_cases h48 : At g n p1 48
  · refine (byte_yes w0 bp a n c p1 g 48 _ hn HT.out HS.out h48).mono ?_
    rintro e w2 ⟨rfl, hS2⟩
    have HS2 : Hid (Scan w0 w2 bp a n c (p1 + 1)) := hS2
    have HW : Hid (Whole g n i (p1 + 1)) := whole_zero g n HSg.out h48
    clear hS2 HS HSg h48
    generalize p1 + 1 = p2 at *
    go_wp2_with fail
    by_cases h46 : At g n p2 46
    · refine (byte_yes w0 bp a n c p2 g 46 _ hn HT.out HS2.out h46).mono ?_
      rintro e w3' ⟨rfl, hS3⟩
      have HS3' : Hid (Scan w0 w3' bp a n c (p2 + 1)) := hS3
      clear hS3 HS2
      go_wp2_with fail
      refine (digits_none w0 bp a n c (p2 + 1) g _ hn (by have := h46.1; omega) HT.out HS3'.out).mono ?_
      rintro e w3 (⟨rfl, hr, hS3⟩ | ⟨q, z, rfl, hz, hr, hq, hS3⟩)
      · have R : Hid (Law g n i false (p2 + 1) ∧ Scan w0 w3 bp a n c (p2 + 1)) := ⟨frac_bad g n HW.out h46 hr, hS3⟩
        clear hr hS3 HW HS3' h46
        go_wp2
        go_ret
        exact ⟨false, p2 + 1, rfl, R.out.1, R.out.2⟩
      · have HS3 : Hid (Scan w0 w3 bp a n c q) := hS3
        have HF : Hid (Frac g n i q) := frac_digits g n HW.out h46 hr hq
        clear hr hq hS3 HW HS3' h46
        generalize q = p3 at *
        go_wp2_with fail
        by_cases h101 : At g n p3 101
        · refine (byte_yes w0 bp a n c p3 g 101 _ hn HT.out HS3.out h101).mono ?_
          rintro e w4 ⟨rfl, hS4⟩
          have HS4 : Hid (Scan w0 w4 bp a n c (p3 + 1)) := hS4
          have HX : Hid (Expo g n i (p3 + 1)) := expo_mark g n HF.out (.inl h101)
          clear hS4 HS3 HF h101
          generalize p3 + 1 = p4 at *
          go_wp2_with fail
          by_cases h43 : At g n p4 43
          · refine (byte_yes w0 bp a n c p4 g 43 _ hn HT.out HS4.out h43).mono ?_
            rintro e w5 ⟨rfl, hS5⟩
            have HS5 : Hid (Scan w0 w5 bp a n c (p4 + 1)) := hS5
            have HE : Hid (ExpS g n i (p4 + 1)) := exps_yes g n HX.out (.inl h43)
            clear hS5 HS4 HX h43
            generalize p4 + 1 = p5 at *
            go_wp2_with fail
            refine (digits_none w0 bp a n c p5 g _ hn (by obtain ⟨_, _, _, _, h⟩ := HE.out; omega) HT.out HS5.out).mono ?_
            rintro e w7 (⟨rfl, hr, hS7⟩ | ⟨q, z, rfl, hz, hr, hq, hS7⟩)
            · have R : Hid (Law g n i false p5 ∧ Scan w0 w7 bp a n c p5) := ⟨end_bad g n HE.out hr, hS7⟩
              clear hr hS7 HE HS5
              go_wp2
              go_ret
              exact ⟨false, p5, rfl, R.out.1, R.out.2⟩
            · have R : Hid (Law g n i true q ∧ Scan w0 w7 bp a n c q) := ⟨end_exp g n HE.out hr hq, hS7⟩
              clear hr hq hS7 HE HS5
              go_wp2
              go_ret
              exact ⟨true, q, rfl, R.out.1, R.out.2⟩
          · refine (byte_no w0 bp a n c p4 g 43 _ hn HT.out HS4.out h43).mono ?_
            rintro e w5 ⟨rfl, hS5⟩
            have HS5' : Hid (Scan w0 w5 bp a n c p4) := hS5
            clear hS5
            go_wp2_with fail
            refine (byte_minus w0 bp a n c i p4 g _ hn HT.out HS5'.out HX.out h43).mono ?_
            clear HS5' HS4 HX h43
            rintro e w6 ⟨b6, p5, rfl, hE, hS5⟩
            have HS5 : Hid (Scan w0 w6 bp a n c p5) := hS5
            have HE : Hid (ExpS g n i p5) := hE
            clear hS5 hE
            go_wp2_with fail
            refine (digits_none w0 bp a n c p5 g _ hn (by obtain ⟨_, _, _, _, h⟩ := HE.out; omega) HT.out HS5.out).mono ?_
            rintro e w7 (⟨rfl, hr, hS7⟩ | ⟨q, z, rfl, hz, hr, hq, hS7⟩)
            · have R : Hid (Law g n i false p5 ∧ Scan w0 w7 bp a n c p5) := ⟨end_bad g n HE.out hr, hS7⟩
              clear hr hS7 HE HS5
              go_wp2
              go_ret
              exact ⟨false, p5, rfl, R.out.1, R.out.2⟩
            · have R : Hid (Law g n i true q ∧ Scan w0 w7 bp a n c q) := ⟨end_exp g n HE.out hr hq, hS7⟩
              clear hr hq hS7 HE HS5
              go_wp2
              go_ret
              exact ⟨true, q, rfl, R.out.1, R.out.2⟩
        · refine (byte_no w0 bp a n c p3 g 101 _ hn HT.out HS3.out h101).mono ?_
          rintro e w4 ⟨rfl, hS4⟩
          have HS4' : Hid (Scan w0 w4 bp a n c p3) := hS4
          clear hS4 HS3
          go_wp2_with fail
          by_cases h69 : At g n p3 69
          · refine (byte_yes w0 bp a n c p3 g 69 _ hn HT.out HS4'.out h69).mono ?_
            rintro e w5 ⟨rfl, hS4⟩
            have HS4 : Hid (Scan w0 w5 bp a n c (p3 + 1)) := hS4
            have HX : Hid (Expo g n i (p3 + 1)) := expo_mark g n HF.out (.inr h69)
            clear hS4 HS4' HF h69 h101
            generalize p3 + 1 = p4 at *
            go_wp2_with fail
            by_cases h43 : At g n p4 43
            · refine (byte_yes w0 bp a n c p4 g 43 _ hn HT.out HS4.out h43).mono ?_
              rintro e w5 ⟨rfl, hS5⟩
              have HS5 : Hid (Scan w0 w5 bp a n c (p4 + 1)) := hS5
              have HE : Hid (ExpS g n i (p4 + 1)) := exps_yes g n HX.out (.inl h43)
              clear hS5 HS4 HX h43
              generalize p4 + 1 = p5 at *
              go_wp2_with fail
              refine (digits_none w0 bp a n c p5 g _ hn (by obtain ⟨_, _, _, _, h⟩ := HE.out; omega) HT.out HS5.out).mono ?_
              rintro e w7 (⟨rfl, hr, hS7⟩ | ⟨q, z, rfl, hz, hr, hq, hS7⟩)
              · have R : Hid (Law g n i false p5 ∧ Scan w0 w7 bp a n c p5) := ⟨end_bad g n HE.out hr, hS7⟩
                clear hr hS7 HE HS5
                go_wp2
                go_ret
                exact ⟨false, p5, rfl, R.out.1, R.out.2⟩
              · have R : Hid (Law g n i true q ∧ Scan w0 w7 bp a n c q) := ⟨end_exp g n HE.out hr hq, hS7⟩
                clear hr hq hS7 HE HS5
                go_wp2
                go_ret
                exact ⟨true, q, rfl, R.out.1, R.out.2⟩
            · refine (byte_no w0 bp a n c p4 g 43 _ hn HT.out HS4.out h43).mono ?_
              rintro e w5 ⟨rfl, hS5⟩
              have HS5' : Hid (Scan w0 w5 bp a n c p4) := hS5
              clear hS5
              go_wp2_with fail
              refine (byte_minus w0 bp a n c i p4 g _ hn HT.out HS5'.out HX.out h43).mono ?_
              clear HS5' HS4 HX h43
              rintro e w6 ⟨b6, p5, rfl, hE, hS5⟩
              have HS5 : Hid (Scan w0 w6 bp a n c p5) := hS5
              have HE : Hid (ExpS g n i p5) := hE
              clear hS5 hE
              go_wp2_with fail
              refine (digits_none w0 bp a n c p5 g _ hn (by obtain ⟨_, _, _, _, h⟩ := HE.out; omega) HT.out HS5.out).mono ?_
              rintro e w7 (⟨rfl, hr, hS7⟩ | ⟨q, z, rfl, hz, hr, hq, hS7⟩)
              · have R : Hid (Law g n i false p5 ∧ Scan w0 w7 bp a n c p5) := ⟨end_bad g n HE.out hr, hS7⟩
                clear hr hS7 HE HS5
                go_wp2
                go_ret
                exact ⟨false, p5, rfl, R.out.1, R.out.2⟩
              · have R : Hid (Law g n i true q ∧ Scan w0 w7 bp a n c q) := ⟨end_exp g n HE.out hr hq, hS7⟩
                clear hr hq hS7 HE HS5
                go_wp2
                go_ret
                exact ⟨true, q, rfl, R.out.1, R.out.2⟩
          · refine (byte_no w0 bp a n c p3 g 69 _ hn HT.out HS4'.out h69).mono ?_
            rintro e w5 ⟨rfl, hS5⟩
            have R : Hid (Law g n i true p3 ∧ Scan w0 w5 bp a n c p3) := ⟨end_plain g n HF.out h101 h69, hS5⟩
            clear hS5 HS4' HF h101 h69
            go_wp2
            go_ret
            exact ⟨true, p3, rfl, R.out.1, R.out.2⟩
    · refine (byte_no w0 bp a n c p2 g 46 _ hn HT.out HS2.out h46).mono ?_
      rintro e w3 ⟨rfl, hS3⟩
      have HS3 : Hid (Scan w0 w3 bp a n c p2) := hS3
      have HF : Hid (Frac g n i p2) := frac_none g n HW.out h46
      clear hS3 HS2 HW h46
      generalize p2 = p3 at *
      go_wp2_with fail
      by_cases h101 : At g n p3 101
      · refine (byte_yes w0 bp a n c p3 g 101 _ hn HT.out HS3.out h101).mono ?_
        rintro e w4 ⟨rfl, hS4⟩
        have HS4 : Hid (Scan w0 w4 bp a n c (p3 + 1)) := hS4
        have HX : Hid (Expo g n i (p3 + 1)) := expo_mark g n HF.out (.inl h101)
        clear hS4 HS3 HF h101
        generalize p3 + 1 = p4 at *
        go_wp2_with fail
        by_cases h43 : At g n p4 43
        · refine (byte_yes w0 bp a n c p4 g 43 _ hn HT.out HS4.out h43).mono ?_
          rintro e w5 ⟨rfl, hS5⟩
          have HS5 : Hid (Scan w0 w5 bp a n c (p4 + 1)) := hS5
          have HE : Hid (ExpS g n i (p4 + 1)) := exps_yes g n HX.out (.inl h43)
          clear hS5 HS4 HX h43
          generalize p4 + 1 = p5 at *
          go_wp2_with fail
          refine (digits_none w0 bp a n c p5 g _ hn (by obtain ⟨_, _, _, _, h⟩ := HE.out; omega) HT.out HS5.out).mono ?_
          rintro e w7 (⟨rfl, hr, hS7⟩ | ⟨q, z, rfl, hz, hr, hq, hS7⟩)
          · have R : Hid (Law g n i false p5 ∧ Scan w0 w7 bp a n c p5) := ⟨end_bad g n HE.out hr, hS7⟩
            clear hr hS7 HE HS5
            go_wp2
            go_ret
            exact ⟨false, p5, rfl, R.out.1, R.out.2⟩
          · have R : Hid (Law g n i true q ∧ Scan w0 w7 bp a n c q) := ⟨end_exp g n HE.out hr hq, hS7⟩
            clear hr hq hS7 HE HS5
            go_wp2
            go_ret
            exact ⟨true, q, rfl, R.out.1, R.out.2⟩
        · refine (byte_no w0 bp a n c p4 g 43 _ hn HT.out HS4.out h43).mono ?_
          rintro e w5 ⟨rfl, hS5⟩
          have HS5' : Hid (Scan w0 w5 bp a n c p4) := hS5
          clear hS5
          go_wp2_with fail
          refine (byte_minus w0 bp a n c i p4 g _ hn HT.out HS5'.out HX.out h43).mono ?_
          clear HS5' HS4 HX h43
          rintro e w6 ⟨b6, p5, rfl, hE, hS5⟩
          have HS5 : Hid (Scan w0 w6 bp a n c p5) := hS5
          have HE : Hid (ExpS g n i p5) := hE
          clear hS5 hE
          go_wp2_with fail
          refine (digits_none w0 bp a n c p5 g _ hn (by obtain ⟨_, _, _, _, h⟩ := HE.out; omega) HT.out HS5.out).mono ?_
          rintro e w7 (⟨rfl, hr, hS7⟩ | ⟨q, z, rfl, hz, hr, hq, hS7⟩)
          · have R : Hid (Law g n i false p5 ∧ Scan w0 w7 bp a n c p5) := ⟨end_bad g n HE.out hr, hS7⟩
            clear hr hS7 HE HS5
            go_wp2
            go_ret
            exact ⟨false, p5, rfl, R.out.1, R.out.2⟩
          · have R : Hid (Law g n i true q ∧ Scan w0 w7 bp a n c q) := ⟨end_exp g n HE.out hr hq, hS7⟩
            clear hr hq hS7 HE HS5
            go_wp2
            go_ret
            exact ⟨true, q, rfl, R.out.1, R.out.2⟩
      · refine (byte_no w0 bp a n c p3 g 101 _ hn HT.out HS3.out h101).mono ?_
        rintro e w4 ⟨rfl, hS4⟩
        have HS4' : Hid (Scan w0 w4 bp a n c p3) := hS4
        clear hS4 HS3
        go_wp2_with fail
        by_cases h69 : At g n p3 69
        · refine (byte_yes w0 bp a n c p3 g 69 _ hn HT.out HS4'.out h69).mono ?_
          rintro e w5 ⟨rfl, hS4⟩
          have HS4 : Hid (Scan w0 w5 bp a n c (p3 + 1)) := hS4
          have HX : Hid (Expo g n i (p3 + 1)) := expo_mark g n HF.out (.inr h69)
          clear hS4 HS4' HF h69 h101
          generalize p3 + 1 = p4 at *
          go_wp2_with fail
          by_cases h43 : At g n p4 43
          · refine (byte_yes w0 bp a n c p4 g 43 _ hn HT.out HS4.out h43).mono ?_
            rintro e w5 ⟨rfl, hS5⟩
            have HS5 : Hid (Scan w0 w5 bp a n c (p4 + 1)) := hS5
            have HE : Hid (ExpS g n i (p4 + 1)) := exps_yes g n HX.out (.inl h43)
            clear hS5 HS4 HX h43
            generalize p4 + 1 = p5 at *
            go_wp2_with fail
            refine (digits_none w0 bp a n c p5 g _ hn (by obtain ⟨_, _, _, _, h⟩ := HE.out; omega) HT.out HS5.out).mono ?_
            rintro e w7 (⟨rfl, hr, hS7⟩ | ⟨q, z, rfl, hz, hr, hq, hS7⟩)
            · have R : Hid (Law g n i false p5 ∧ Scan w0 w7 bp a n c p5) := ⟨end_bad g n HE.out hr, hS7⟩
              clear hr hS7 HE HS5
              go_wp2
              go_ret
              exact ⟨false, p5, rfl, R.out.1, R.out.2⟩
            · have R : Hid (Law g n i true q ∧ Scan w0 w7 bp a n c q) := ⟨end_exp g n HE.out hr hq, hS7⟩
              clear hr hq hS7 HE HS5
              go_wp2
              go_ret
              exact ⟨true, q, rfl, R.out.1, R.out.2⟩
          · refine (byte_no w0 bp a n c p4 g 43 _ hn HT.out HS4.out h43).mono ?_
            rintro e w5 ⟨rfl, hS5⟩
            have HS5' : Hid (Scan w0 w5 bp a n c p4) := hS5
            clear hS5
            go_wp2_with fail
            refine (byte_minus w0 bp a n c i p4 g _ hn HT.out HS5'.out HX.out h43).mono ?_
            clear HS5' HS4 HX h43
            rintro e w6 ⟨b6, p5, rfl, hE, hS5⟩
            have HS5 : Hid (Scan w0 w6 bp a n c p5) := hS5
            have HE : Hid (ExpS g n i p5) := hE
            clear hS5 hE
            go_wp2_with fail
            refine (digits_none w0 bp a n c p5 g _ hn (by obtain ⟨_, _, _, _, h⟩ := HE.out; omega) HT.out HS5.out).mono ?_
            rintro e w7 (⟨rfl, hr, hS7⟩ | ⟨q, z, rfl, hz, hr, hq, hS7⟩)
            · have R : Hid (Law g n i false p5 ∧ Scan w0 w7 bp a n c p5) := ⟨end_bad g n HE.out hr, hS7⟩
              clear hr hS7 HE HS5
              go_wp2
              go_ret
              exact ⟨false, p5, rfl, R.out.1, R.out.2⟩
            · have R : Hid (Law g n i true q ∧ Scan w0 w7 bp a n c q) := ⟨end_exp g n HE.out hr hq, hS7⟩
              clear hr hq hS7 HE HS5
              go_wp2
              go_ret
              exact ⟨true, q, rfl, R.out.1, R.out.2⟩
        · refine (byte_no w0 bp a n c p3 g 69 _ hn HT.out HS4'.out h69).mono ?_
          rintro e w5 ⟨rfl, hS5⟩
          have R : Hid (Law g n i true p3 ∧ Scan w0 w5 bp a n c p3) := ⟨end_plain g n HF.out h101 h69, hS5⟩
          clear hS5 HS4' HF h101 h69
          go_wp2
          go_ret
          exact ⟨true, p3, rfl, R.out.1, R.out.2⟩
  · refine (byte_no w0 bp a n c p1 g 48 _ hn HT.out HS.out h48).mono ?_
    rintro e w2' ⟨rfl, hS2⟩
    have HS2' : Hid (Scan w0 w2' bp a n c p1) := hS2
    clear hS2 HS
    go_wp2_with fail
    refine (digits_none w0 bp a n c p1 g _ hn hp1 HT.out HS2'.out).mono ?_
    rintro e w2 (⟨rfl, hr, hS2⟩ | ⟨q, z, rfl, hz, hr, hq, hS2⟩)
    · have R : Hid (Law g n i false p1 ∧ Scan w0 w2 bp a n c p1) := ⟨whole_none g n HSg.out h48 hr, hS2⟩
      clear hr hS2 HSg HS2' h48
      go_wp2
      go_ret
      exact ⟨false, p1, rfl, R.out.1, R.out.2⟩
    · have HS2 : Hid (Scan w0 w2 bp a n c q) := hS2
      have HW : Hid (Whole g n i q) := whole_digits g n HSg.out h48 hr hq
      clear hr hq hS2 HSg HS2' h48
      generalize q = p2 at *
      go_wp2_with fail
      by_cases h46 : At g n p2 46
      · refine (byte_yes w0 bp a n c p2 g 46 _ hn HT.out HS2.out h46).mono ?_
        rintro e w3' ⟨rfl, hS3⟩
        have HS3' : Hid (Scan w0 w3' bp a n c (p2 + 1)) := hS3
        clear hS3 HS2
        go_wp2_with fail
        refine (digits_none w0 bp a n c (p2 + 1) g _ hn (by have := h46.1; omega) HT.out HS3'.out).mono ?_
        rintro e w3 (⟨rfl, hr, hS3⟩ | ⟨q, z, rfl, hz, hr, hq, hS3⟩)
        · have R : Hid (Law g n i false (p2 + 1) ∧ Scan w0 w3 bp a n c (p2 + 1)) := ⟨frac_bad g n HW.out h46 hr, hS3⟩
          clear hr hS3 HW HS3' h46
          go_wp2
          go_ret
          exact ⟨false, p2 + 1, rfl, R.out.1, R.out.2⟩
        · have HS3 : Hid (Scan w0 w3 bp a n c q) := hS3
          have HF : Hid (Frac g n i q) := frac_digits g n HW.out h46 hr hq
          clear hr hq hS3 HW HS3' h46
          generalize q = p3 at *
          go_wp2_with fail
          by_cases h101 : At g n p3 101
          · refine (byte_yes w0 bp a n c p3 g 101 _ hn HT.out HS3.out h101).mono ?_
            rintro e w4 ⟨rfl, hS4⟩
            have HS4 : Hid (Scan w0 w4 bp a n c (p3 + 1)) := hS4
            have HX : Hid (Expo g n i (p3 + 1)) := expo_mark g n HF.out (.inl h101)
            clear hS4 HS3 HF h101
            generalize p3 + 1 = p4 at *
            go_wp2_with fail
            by_cases h43 : At g n p4 43
            · refine (byte_yes w0 bp a n c p4 g 43 _ hn HT.out HS4.out h43).mono ?_
              rintro e w5 ⟨rfl, hS5⟩
              have HS5 : Hid (Scan w0 w5 bp a n c (p4 + 1)) := hS5
              have HE : Hid (ExpS g n i (p4 + 1)) := exps_yes g n HX.out (.inl h43)
              clear hS5 HS4 HX h43
              generalize p4 + 1 = p5 at *
              go_wp2_with fail
              refine (digits_none w0 bp a n c p5 g _ hn (by obtain ⟨_, _, _, _, h⟩ := HE.out; omega) HT.out HS5.out).mono ?_
              rintro e w7 (⟨rfl, hr, hS7⟩ | ⟨q, z, rfl, hz, hr, hq, hS7⟩)
              · have R : Hid (Law g n i false p5 ∧ Scan w0 w7 bp a n c p5) := ⟨end_bad g n HE.out hr, hS7⟩
                clear hr hS7 HE HS5
                go_wp2
                go_ret
                exact ⟨false, p5, rfl, R.out.1, R.out.2⟩
              · have R : Hid (Law g n i true q ∧ Scan w0 w7 bp a n c q) := ⟨end_exp g n HE.out hr hq, hS7⟩
                clear hr hq hS7 HE HS5
                go_wp2
                go_ret
                exact ⟨true, q, rfl, R.out.1, R.out.2⟩
            · refine (byte_no w0 bp a n c p4 g 43 _ hn HT.out HS4.out h43).mono ?_
              rintro e w5 ⟨rfl, hS5⟩
              have HS5' : Hid (Scan w0 w5 bp a n c p4) := hS5
              clear hS5
              go_wp2_with fail
              refine (byte_minus w0 bp a n c i p4 g _ hn HT.out HS5'.out HX.out h43).mono ?_
              clear HS5' HS4 HX h43
              rintro e w6 ⟨b6, p5, rfl, hE, hS5⟩
              have HS5 : Hid (Scan w0 w6 bp a n c p5) := hS5
              have HE : Hid (ExpS g n i p5) := hE
              clear hS5 hE
              go_wp2_with fail
              refine (digits_none w0 bp a n c p5 g _ hn (by obtain ⟨_, _, _, _, h⟩ := HE.out; omega) HT.out HS5.out).mono ?_
              rintro e w7 (⟨rfl, hr, hS7⟩ | ⟨q, z, rfl, hz, hr, hq, hS7⟩)
              · have R : Hid (Law g n i false p5 ∧ Scan w0 w7 bp a n c p5) := ⟨end_bad g n HE.out hr, hS7⟩
                clear hr hS7 HE HS5
                go_wp2
                go_ret
                exact ⟨false, p5, rfl, R.out.1, R.out.2⟩
              · have R : Hid (Law g n i true q ∧ Scan w0 w7 bp a n c q) := ⟨end_exp g n HE.out hr hq, hS7⟩
                clear hr hq hS7 HE HS5
                go_wp2
                go_ret
                exact ⟨true, q, rfl, R.out.1, R.out.2⟩
          · refine (byte_no w0 bp a n c p3 g 101 _ hn HT.out HS3.out h101).mono ?_
            rintro e w4 ⟨rfl, hS4⟩
            have HS4' : Hid (Scan w0 w4 bp a n c p3) := hS4
            clear hS4 HS3
            go_wp2_with fail
            by_cases h69 : At g n p3 69
            · refine (byte_yes w0 bp a n c p3 g 69 _ hn HT.out HS4'.out h69).mono ?_
              rintro e w5 ⟨rfl, hS4⟩
              have HS4 : Hid (Scan w0 w5 bp a n c (p3 + 1)) := hS4
              have HX : Hid (Expo g n i (p3 + 1)) := expo_mark g n HF.out (.inr h69)
              clear hS4 HS4' HF h69 h101
              generalize p3 + 1 = p4 at *
              go_wp2_with fail
              by_cases h43 : At g n p4 43
              · refine (byte_yes w0 bp a n c p4 g 43 _ hn HT.out HS4.out h43).mono ?_
                rintro e w5 ⟨rfl, hS5⟩
                have HS5 : Hid (Scan w0 w5 bp a n c (p4 + 1)) := hS5
                have HE : Hid (ExpS g n i (p4 + 1)) := exps_yes g n HX.out (.inl h43)
                clear hS5 HS4 HX h43
                generalize p4 + 1 = p5 at *
                go_wp2_with fail
                refine (digits_none w0 bp a n c p5 g _ hn (by obtain ⟨_, _, _, _, h⟩ := HE.out; omega) HT.out HS5.out).mono ?_
                rintro e w7 (⟨rfl, hr, hS7⟩ | ⟨q, z, rfl, hz, hr, hq, hS7⟩)
                · have R : Hid (Law g n i false p5 ∧ Scan w0 w7 bp a n c p5) := ⟨end_bad g n HE.out hr, hS7⟩
                  clear hr hS7 HE HS5
                  go_wp2
                  go_ret
                  exact ⟨false, p5, rfl, R.out.1, R.out.2⟩
                · have R : Hid (Law g n i true q ∧ Scan w0 w7 bp a n c q) := ⟨end_exp g n HE.out hr hq, hS7⟩
                  clear hr hq hS7 HE HS5
                  go_wp2
                  go_ret
                  exact ⟨true, q, rfl, R.out.1, R.out.2⟩
              · refine (byte_no w0 bp a n c p4 g 43 _ hn HT.out HS4.out h43).mono ?_
                rintro e w5 ⟨rfl, hS5⟩
                have HS5' : Hid (Scan w0 w5 bp a n c p4) := hS5
                clear hS5
                go_wp2_with fail
                refine (byte_minus w0 bp a n c i p4 g _ hn HT.out HS5'.out HX.out h43).mono ?_
                clear HS5' HS4 HX h43
                rintro e w6 ⟨b6, p5, rfl, hE, hS5⟩
                have HS5 : Hid (Scan w0 w6 bp a n c p5) := hS5
                have HE : Hid (ExpS g n i p5) := hE
                clear hS5 hE
                go_wp2_with fail
                refine (digits_none w0 bp a n c p5 g _ hn (by obtain ⟨_, _, _, _, h⟩ := HE.out; omega) HT.out HS5.out).mono ?_
                rintro e w7 (⟨rfl, hr, hS7⟩ | ⟨q, z, rfl, hz, hr, hq, hS7⟩)
                · have R : Hid (Law g n i false p5 ∧ Scan w0 w7 bp a n c p5) := ⟨end_bad g n HE.out hr, hS7⟩
                  clear hr hS7 HE HS5
                  go_wp2
                  go_ret
                  exact ⟨false, p5, rfl, R.out.1, R.out.2⟩
                · have R : Hid (Law g n i true q ∧ Scan w0 w7 bp a n c q) := ⟨end_exp g n HE.out hr hq, hS7⟩
                  clear hr hq hS7 HE HS5
                  go_wp2
                  go_ret
                  exact ⟨true, q, rfl, R.out.1, R.out.2⟩
            · refine (byte_no w0 bp a n c p3 g 69 _ hn HT.out HS4'.out h69).mono ?_
              rintro e w5 ⟨rfl, hS5⟩
              have R : Hid (Law g n i true p3 ∧ Scan w0 w5 bp a n c p3) := ⟨end_plain g n HF.out h101 h69, hS5⟩
              clear hS5 HS4' HF h101 h69
              go_wp2
              go_ret
              exact ⟨true, p3, rfl, R.out.1, R.out.2⟩
      · refine (byte_no w0 bp a n c p2 g 46 _ hn HT.out HS2.out h46).mono ?_
        rintro e w3 ⟨rfl, hS3⟩
        have HS3 : Hid (Scan w0 w3 bp a n c p2) := hS3
        have HF : Hid (Frac g n i p2) := frac_none g n HW.out h46
        clear hS3 HS2 HW h46
        generalize p2 = p3 at *
        go_wp2_with fail
        by_cases h101 : At g n p3 101
        · refine (byte_yes w0 bp a n c p3 g 101 _ hn HT.out HS3.out h101).mono ?_
          rintro e w4 ⟨rfl, hS4⟩
          have HS4 : Hid (Scan w0 w4 bp a n c (p3 + 1)) := hS4
          have HX : Hid (Expo g n i (p3 + 1)) := expo_mark g n HF.out (.inl h101)
          clear hS4 HS3 HF h101
          generalize p3 + 1 = p4 at *
          go_wp2_with fail
          by_cases h43 : At g n p4 43
          · refine (byte_yes w0 bp a n c p4 g 43 _ hn HT.out HS4.out h43).mono ?_
            rintro e w5 ⟨rfl, hS5⟩
            have HS5 : Hid (Scan w0 w5 bp a n c (p4 + 1)) := hS5
            have HE : Hid (ExpS g n i (p4 + 1)) := exps_yes g n HX.out (.inl h43)
            clear hS5 HS4 HX h43
            generalize p4 + 1 = p5 at *
            go_wp2_with fail
            refine (digits_none w0 bp a n c p5 g _ hn (by obtain ⟨_, _, _, _, h⟩ := HE.out; omega) HT.out HS5.out).mono ?_
            rintro e w7 (⟨rfl, hr, hS7⟩ | ⟨q, z, rfl, hz, hr, hq, hS7⟩)
            · have R : Hid (Law g n i false p5 ∧ Scan w0 w7 bp a n c p5) := ⟨end_bad g n HE.out hr, hS7⟩
              clear hr hS7 HE HS5
              go_wp2
              go_ret
              exact ⟨false, p5, rfl, R.out.1, R.out.2⟩
            · have R : Hid (Law g n i true q ∧ Scan w0 w7 bp a n c q) := ⟨end_exp g n HE.out hr hq, hS7⟩
              clear hr hq hS7 HE HS5
              go_wp2
              go_ret
              exact ⟨true, q, rfl, R.out.1, R.out.2⟩
          · refine (byte_no w0 bp a n c p4 g 43 _ hn HT.out HS4.out h43).mono ?_
            rintro e w5 ⟨rfl, hS5⟩
            have HS5' : Hid (Scan w0 w5 bp a n c p4) := hS5
            clear hS5
            go_wp2_with fail
            refine (byte_minus w0 bp a n c i p4 g _ hn HT.out HS5'.out HX.out h43).mono ?_
            clear HS5' HS4 HX h43
            rintro e w6 ⟨b6, p5, rfl, hE, hS5⟩
            have HS5 : Hid (Scan w0 w6 bp a n c p5) := hS5
            have HE : Hid (ExpS g n i p5) := hE
            clear hS5 hE
            go_wp2_with fail
            refine (digits_none w0 bp a n c p5 g _ hn (by obtain ⟨_, _, _, _, h⟩ := HE.out; omega) HT.out HS5.out).mono ?_
            rintro e w7 (⟨rfl, hr, hS7⟩ | ⟨q, z, rfl, hz, hr, hq, hS7⟩)
            · have R : Hid (Law g n i false p5 ∧ Scan w0 w7 bp a n c p5) := ⟨end_bad g n HE.out hr, hS7⟩
              clear hr hS7 HE HS5
              go_wp2
              go_ret
              exact ⟨false, p5, rfl, R.out.1, R.out.2⟩
            · have R : Hid (Law g n i true q ∧ Scan w0 w7 bp a n c q) := ⟨end_exp g n HE.out hr hq, hS7⟩
              clear hr hq hS7 HE HS5
              go_wp2
              go_ret
              exact ⟨true, q, rfl, R.out.1, R.out.2⟩
        · refine (byte_no w0 bp a n c p3 g 101 _ hn HT.out HS3.out h101).mono ?_
          rintro e w4 ⟨rfl, hS4⟩
          have HS4' : Hid (Scan w0 w4 bp a n c p3) := hS4
          clear hS4 HS3
          go_wp2_with fail
          by_cases h69 : At g n p3 69
          · refine (byte_yes w0 bp a n c p3 g 69 _ hn HT.out HS4'.out h69).mono ?_
            rintro e w5 ⟨rfl, hS4⟩
            have HS4 : Hid (Scan w0 w5 bp a n c (p3 + 1)) := hS4
            have HX : Hid (Expo g n i (p3 + 1)) := expo_mark g n HF.out (.inr h69)
            clear hS4 HS4' HF h69 h101
            generalize p3 + 1 = p4 at *
            go_wp2_with fail
            by_cases h43 : At g n p4 43
            · refine (byte_yes w0 bp a n c p4 g 43 _ hn HT.out HS4.out h43).mono ?_
              rintro e w5 ⟨rfl, hS5⟩
              have HS5 : Hid (Scan w0 w5 bp a n c (p4 + 1)) := hS5
              have HE : Hid (ExpS g n i (p4 + 1)) := exps_yes g n HX.out (.inl h43)
              clear hS5 HS4 HX h43
              generalize p4 + 1 = p5 at *
              go_wp2_with fail
              refine (digits_none w0 bp a n c p5 g _ hn (by obtain ⟨_, _, _, _, h⟩ := HE.out; omega) HT.out HS5.out).mono ?_
              rintro e w7 (⟨rfl, hr, hS7⟩ | ⟨q, z, rfl, hz, hr, hq, hS7⟩)
              · have R : Hid (Law g n i false p5 ∧ Scan w0 w7 bp a n c p5) := ⟨end_bad g n HE.out hr, hS7⟩
                clear hr hS7 HE HS5
                go_wp2
                go_ret
                exact ⟨false, p5, rfl, R.out.1, R.out.2⟩
              · have R : Hid (Law g n i true q ∧ Scan w0 w7 bp a n c q) := ⟨end_exp g n HE.out hr hq, hS7⟩
                clear hr hq hS7 HE HS5
                go_wp2
                go_ret
                exact ⟨true, q, rfl, R.out.1, R.out.2⟩
            · refine (byte_no w0 bp a n c p4 g 43 _ hn HT.out HS4.out h43).mono ?_
              rintro e w5 ⟨rfl, hS5⟩
              have HS5' : Hid (Scan w0 w5 bp a n c p4) := hS5
              clear hS5
              go_wp2_with fail
              refine (byte_minus w0 bp a n c i p4 g _ hn HT.out HS5'.out HX.out h43).mono ?_
              clear HS5' HS4 HX h43
              rintro e w6 ⟨b6, p5, rfl, hE, hS5⟩
              have HS5 : Hid (Scan w0 w6 bp a n c p5) := hS5
              have HE : Hid (ExpS g n i p5) := hE
              clear hS5 hE
              go_wp2_with fail
              refine (digits_none w0 bp a n c p5 g _ hn (by obtain ⟨_, _, _, _, h⟩ := HE.out; omega) HT.out HS5.out).mono ?_
              rintro e w7 (⟨rfl, hr, hS7⟩ | ⟨q, z, rfl, hz, hr, hq, hS7⟩)
              · have R : Hid (Law g n i false p5 ∧ Scan w0 w7 bp a n c p5) := ⟨end_bad g n HE.out hr, hS7⟩
                clear hr hS7 HE HS5
                go_wp2
                go_ret
                exact ⟨false, p5, rfl, R.out.1, R.out.2⟩
              · have R : Hid (Law g n i true q ∧ Scan w0 w7 bp a n c q) := ⟨end_exp g n HE.out hr hq, hS7⟩
                clear hr hq hS7 HE HS5
                go_wp2
                go_ret
                exact ⟨true, q, rfl, R.out.1, R.out.2⟩
          · refine (byte_no w0 bp a n c p3 g 69 _ hn HT.out HS4'.out h69).mono ?_
            rintro e w5 ⟨rfl, hS5⟩
            have R : Hid (Law g n i true p3 ∧ Scan w0 w5 bp a n c p3) := ⟨end_plain g n HF.out h101 h69, hS5⟩
            clear hS5 HS4' HF h101 h69
            go_wp2
            go_ret
            exact ⟨true, p3, rfl, R.out.1, R.out.2⟩

/-- How ZZNumber ends. -/
def ZZEnd (w : World) (n i : Nat) (g : Nat → Int) (e : Ending) (w' : World) : Prop :=
  ∃ (ok : Bool) (q : Nat), e = .returned (.tuple #[.bool ok, .int .i64 (q : Nat)]) ∧ Law g n i ok q ∧ Below w.heap.size w w'

theorem zznumber_any (a : Option Addr) (n c i : Nat) (g : Nat → Int) (w : World) (hn : n ≤ 1048576) (hi : i ≤ 9223372036854775807) (ht : Text w w.heap.size a n g) :
    Calls Try.prog 14 #[.slice a n c, .int .i64 (i : Nat)] w fun e w' => ZZEnd w n i g e w' := by
  have hS : Scan w (w.alloc (.cells #[.slice a n c, .int .i64 (i : Nat)] 40)) w.heap.size a n c i := by
    refine ⟨by simp, by simp, ?_, (Below.refl _ _).alloc (Nat.le_refl _) _, by simp⟩
    unfold World.frozen?
    rw [show (w.alloc (.cells #[.slice a n c, .int .i64 (i : Nat)] 40)).heap[w.heap.size]? = some (.cells #[.slice a n c, .int .i64 (i : Nat)] 40) by
      show (w.heap.push _)[w.heap.size]? = _
      simp]
    simp
  have hN := number_any w w.heap.size a n c i g _ hn hi ht hS
  clear hS ht
  go_enter Try.func14, Try.ntmps14
  go_wp2_with (first | (go_at_call 19; refine hN.mono ?_; rintro e w1 ⟨ok, q, rfl, hL, hS⟩; clear hN))
  have R : Hid (Law g n i ok q ∧ Scan w w1 w.heap.size a n c q) := ⟨hL, hS⟩
  have c1 := hS.c1
  have hl := hS.lt
  clear hL hS
  go_quiet (fail)
  go_wp2
  go_ret2
  exact ⟨ok, q, rfl, R.out.1, R.out.2.old.trans ⟨rfl, rfl, rfl, Nat.le_refl _, fun _ _ => rfl⟩⟩
end Go.Proofs.Qxb6600040a
