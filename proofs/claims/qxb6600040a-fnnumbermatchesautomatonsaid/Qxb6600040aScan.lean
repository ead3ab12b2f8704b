/-
  Seat b6600040a. The contracts of the scanner's methods byte (20), digits (21).
-/
import Derived.Test.Qxb6600040aStep
import Derived.WalkKit
import Derived.ProofKit
import Derived.Below
import Derived.RegionTactic
import Derived.ChangeAlike
import Derived.Deep.QuietTactic
import Derived.BigQuiet
namespace Go.Proofs.Qxb6600040a
open Go.ChangeShapes Go.WideShapes Go.ChangeAt Go.RowKit
set_option linter.unusedVariables false

/-- The bytes of the text that is scanned, in blocks below bp, as they lie in world w0. -/
def Text (w0 : World) (bp : Nat) (a : Option Addr) (n : Nat) (g : Nat → Int) : Prop :=
  ∀ i, i < n → ∃ b off, a = some ⟨b, off, none⟩ ∧ b < bp ∧ w0.cell? ⟨b, off + i, none⟩ = some (.int .u8 (g i))

/-- A scanner at block bp over the text a, at place p; nothing below bp has turned since w0. -/
structure Scan (w0 w : World) (bp : Nat) (a : Option Addr) (n c p : Nat) : Prop where
  c0 : w.cell? ⟨bp, 0, none⟩ = some (.slice a n c)
  c1 : w.cell? ⟨bp, 1, none⟩ = some (.int .i64 (p : Nat))
  f1 : w.frozen? ⟨bp, 1, none⟩ = false
  old : Below bp w0 w
  lt : bp < w.heap.size

theorem Scan.drawn {w0 w : World} {bp : Nat} {a : Option Addr} {n c p : Nat} (h : Scan w0 w bp a n c p) (k : Nat) : Scan w0 (w.drewN k) bp a n c p :=
  ⟨h.c0, h.c1, h.f1, h.old.trans ⟨rfl, rfl, rfl, Nat.le_refl _, fun _ _ => rfl⟩, h.lt⟩

theorem Scan.store {w0 w : World} {bp : Nat} {a : Option Addr} {n c p : Nat} (h : Scan w0 w bp a n c p) (q : Nat) : Scan w0 (w.setCell ⟨bp, 1, none⟩ (.int .i64 (q : Nat))) bp a n c q := by
  refine ⟨?_, World.cell?_setCell_same (h := h.c1) .., (World.frozen?_setCell _ _ _ _).trans h.f1, h.old.setCell (Nat.le_refl _) _, by simpa [World.setCell] using h.lt⟩
  rw [World.cell?_setCell_other (h := fun e => by injection e with _ e2; cases e2)]
  exact h.c0

theorem Scan.byte {w0 w : World} {bp : Nat} {a : Option Addr} {n c p : Nat} (h : Scan w0 w bp a n c p) {g : Nat → Int} (ht : Text w0 bp a n g) {i : Nat} (hi : i < n) : ∃ b off, a = some ⟨b, off, none⟩ ∧ b < bp ∧ w.cell? ⟨b, off + i, none⟩ = some (.int .u8 (g i)) := by
  obtain ⟨b, off, ha, hb, hc⟩ := ht i hi
  exact ⟨b, off, ha, hb, (h.old.cell (p := ⟨b, off + i, none⟩) hb).trans hc⟩

theorem byte_yes (w0 : World) (bp : Nat) (a : Option Addr) (n c p : Nat) (g : Nat → Int) (x : Int) (w : World) (hn : n ≤ 1048576) (ht : Text w0 bp a n g) (hS : Scan w0 w bp a n c p) (h : At g n p x) :
    Calls Try.prog 20 #[.pointer (some ⟨bp, 0, none⟩), .int .u8 x] w fun e w' => e = .returned (.bool true) ∧ Scan w0 w' bp a n c (p + 1) := by
  obtain ⟨hlt, rfl⟩ := h
  obtain ⟨b, off, rfl, hb, hc⟩ := hS.byte ht hlt
  have HS : Hid (Scan w0 w bp (some ⟨b, off, none⟩) n c p) := hS
  obtain ⟨c0, c1, f1, _, hl⟩ := hS
  have hlt' : (p : Int) < (n : Int) := by omega
  have hne : b ≠ bp := by omega
  clear ht
  go_enter Try.func20, Try.ntmps20
  go_wp2_with fail
  go_quiet (fail)
  go_wp2
  go_ret
  exact ⟨rfl, (HS.out.store (p + 1)).drawn _⟩

theorem byte_no (w0 : World) (bp : Nat) (a : Option Addr) (n c p : Nat) (g : Nat → Int) (x : Int) (w : World) (hn : n ≤ 1048576) (ht : Text w0 bp a n g) (hS : Scan w0 w bp a n c p) (h : ¬ At g n p x) :
    Calls Try.prog 20 #[.pointer (some ⟨bp, 0, none⟩), .int .u8 x] w fun e w' => e = .returned (.bool false) ∧ Scan w0 w' bp a n c p := by
  have HS : Hid (Scan w0 w bp a n c p) := hS
  by_cases hlt : p < n
  · obtain ⟨b, off, rfl, hb, hc⟩ := hS.byte ht hlt
    obtain ⟨c0, c1, f1, _, hl⟩ := hS
    have hlt' : (p : Int) < (n : Int) := by omega
    have hx : (g p == x) = false := by
      have : g p ≠ x := fun e => h ⟨hlt, e⟩
      simpa using this
    clear ht h
    go_enter Try.func20, Try.ntmps20
    go_wp2_with fail
    go_quiet (fail)
    go_wp2
    go_ret
    exact ⟨rfl, HS.out.drawn _⟩
  · obtain ⟨c0, c1, f1, _, hl⟩ := hS
    have hd : decide ((p : Int) < (n : Int)) = false := by simp; omega
    clear ht h
    go_enter Try.func20, Try.ntmps20
    go_wp2_with fail
    go_quiet (fail)
    go_wp2
    go_ret
    exact ⟨rfl, HS.out.drawn _⟩

/-- What digits leaves: the run of digits from p ends at q. -/
def Ran (w0 : World) (bp : Nat) (a : Option Addr) (n c p : Nat) (g : Nat → Int) (e : Ending) (w' : World) : Prop :=
  ∃ q : Nat, e = .returned (.int .i64 ((q : Int) - (p : Int))) ∧ DRun g n p q ∧ Scan w0 w' bp a n c q

theorem dig_no {g : Nat → Int} {n q : Nat} (hlt : q < n) (h : ¬ Dig g n q) : digC (g q) = false := not_dig g n h hlt

set_option maxHeartbeats 2000000 in
theorem digits_any (w0 : World) (bp : Nat) (a : Option Addr) (n c p : Nat) (g : Nat → Int) (w : World) (hn : n ≤ 1048576) (hp : p ≤ 9223372036854775807) (ht : Text w0 bp a n g) (hS : Scan w0 w bp a n c p) :
    Calls Try.prog 21 #[.pointer (some ⟨bp, 0, none⟩)] w fun e w' => Ran w0 bp a n c p g e w' := by
  have HS : Hid (Scan w0 w bp a n c p) := hS
  have HT : Hid (Text w0 bp a n g) := ht
  have c1 := hS.c1
  have hl := hS.lt
  clear ht hS
  go_enter Try.func21, Try.ntmps21
  go_wp2
  clear c1 hl
  go_loopw [8] (fun _ wr => ∃ q : Nat, p ≤ q ∧ Hid (∀ j, p ≤ j → j < q → Dig g n j) ∧ Hid (Scan w0 wr bp a n c q)) (fun _ wr => n - (intOf ((wr.cell? ⟨bp, 1, none⟩).getD undef)).toNat)
  case atStart => exact ⟨p, Nat.le_refl _, fun j h1 h2 => by omega, HS⟩
  case round =>
    clear HS
    obtain ⟨q, hpq, HD, HS⟩ := hrel
    obtain ⟨c0, c1, f1, _, hl⟩ := HS.out
    by_cases hlt : q < n
    · obtain ⟨b, off, rfl, hb, hc⟩ := HS.out.byte HT.out hlt
      have hlt' : (q : Int) < (n : Int) := by omega
      have hne : b ≠ bp := by omega
      by_cases hd : Dig g n q
      · obtain ⟨_, hd2⟩ := hd
        have HD2 : Hid (∀ j, p ≤ j → j < q + 1 → Dig g n j) := fun j h1 h2 => by
          by_cases e : j = q
          · subst e; exact ⟨hlt, hd2⟩
          · exact HD.out j h1 (by omega)
        have hd3 : 48 ≤ g q ∧ g q ≤ 57 := by simpa [digC] using hd2
        obtain ⟨d1, d2⟩ := hd3
        clear hd2
        go_wp2_with fail
        go_quiet (fail)
        go_wp2
        go_roundw
        case rel => exact ⟨q + 1, by omega, HD2, (HS.out.store (q + 1)).drawn _⟩
        case measure =>
          have em : ∀ k, ((wr.drewN k).setCell ⟨bp, 1, none⟩ (.int .i64 ((q : Int) + 1))).cell? ⟨bp, 1, none⟩ = some (.int .i64 ((q : Int) + 1)) := fun k => ((HS.out.drawn k).store (q + 1)).c1
          rw [em, c1]
          simp [intOf]
          omega
      · have HR : Hid (DRun g n p q) := ⟨hpq, HD.out, hd⟩
        have hd2 := dig_no hlt hd
        clear hd HD
        by_cases h48 : 48 ≤ g q
        · have h57 : decide (g q ≤ 57) = false := by
            simp only [digC, Bool.and_eq_false_iff, decide_eq_false_iff_not] at hd2
            simp only [decide_eq_false_iff_not]
            omega
          clear hd2
          go_wp2_with fail
          go_quiet (fail)
          go_wp2
          go_ret
          exact ⟨q, rfl, HR.out, HS.out.drawn _⟩
        · have h48' : decide (48 ≤ g q) = false := by simpa using h48
          clear hd2 h48
          go_wp2_with fail
          go_quiet (fail)
          go_wp2
          go_ret
          exact ⟨q, rfl, HR.out, HS.out.drawn _⟩
    · have hd : decide ((q : Int) < (n : Int)) = false := by simp; omega
      have HR : Hid (DRun g n p q) := ⟨hpq, HD.out, fun h => hlt h.1⟩
      have hqb : (q : Int) ≤ 9223372036854775807 := by have := HR.out.bound g n; omega
      have hpq' : (p : Int) ≤ (q : Int) := by omega
      clear HD
      go_wp2_with fail
      go_quiet (fail)
      go_wp2
      go_ret
      exact ⟨q, rfl, HR.out, HS.out.drawn _⟩
end Go.Proofs.Qxb6600040a
