/-
  Seat b6001179a. The contracts of ZZtakeIf (15), ZZtakeAny (17).
-/
import Derived.Test.Qxb6001179aTake
import Derived.WalkKit
import Derived.ProofKit
import Derived.Below
import Derived.RegionTactic
import Derived.ChangeAlike
import Derived.Deep.OwnRows
import Derived.Deep.QuietTactic
import Derived.BigQuiet
namespace Go.Proofs.Qxb6001179a
open Go.ChangeShapes Go.WideShapes Go.ChangeAt Go.RowKit

theorem Toks.lt {w : World} {b n k : Nat} {kz : Nat → Int} {ts : Nat → ByteArray} (h : Toks w b n k kz ts) : b < w.heap.size := by
  obtain ⟨c, hb, _⟩ := h
  exact (Array.getElem?_eq_some_iff.1 hb).1

theorem Toks.at {w : World} {b n : Nat} {kz : Nat → Int} {ts : Nat → ByteArray} (h : Toks w b n n kz ts) (x : Nat) (hx : x < n) :
    w.cell? ⟨b, x * 3, none⟩ = some (.int .i64 (kz x)) ∧ w.cell? ⟨b, x * 3 + 1, none⟩ = some (.string (ts x)) ∧ w.cell? ⟨b, x * 3 + 2, none⟩ = some (.int .i64 (x : Nat)) := by
  obtain ⟨c, hb, _, hc⟩ := h
  obtain ⟨h0, h1, h2⟩ := hc x hx
  exact ⟨by simpa [World.cell?, hb] using h0, by simpa [World.cell?, hb] using h1, by simpa [World.cell?, hb] using h2⟩

/-- The block of a new parser over the tokens in block b. -/
abbrev parsObj (b n x : Nat) : Obj := .cells #[.string ⟨#[]⟩, .slice (some ⟨b, 0, none⟩) n n, .int .i64 (x : Nat), .slice none 0 0] 39

theorem view_new {w1 : World} {b n x : Nat} {kz : Nat → Int} {ts : Nat → ByteArray} (hT : Toks w1 b n n kz ts) (hx : x < n) (hn : n ≤ 65536) : View (w1.alloc (parsObj b n x)) w1.heap.size b n x (kz x) (ts x) := by
  obtain ⟨h0, h1, h2⟩ := hT.at x hx
  have hlt := hT.lt
  refine ⟨by simp, by simp, ?_, ?_, ?_, ?_, hx, hn, by simp, by simp; omega⟩
  · unfold World.frozen?; rw [Go.Deep.blk_alloc_new]; simp
  · rw [World.cell?_alloc_past _ _ _ hlt]; exact h0
  · rw [World.cell?_alloc_past _ _ _ hlt]; exact h1
  · rw [World.cell?_alloc_past _ _ _ hlt]; exact h2

theorem below_drawn {B : Nat} {a w : World} (h : Below B a w) (n : Nat) : Below B a (w.drewN n) := h.trans ⟨rfl, rfl, rfl, Nat.le_refl _, fun _ _ => rfl⟩

/-- A call that has written one block of the caller's own. -/
theorem below_grown_new {w w1 w2 : World} {o : Obj} (hb : Below w.heap.size w w1) (hg : (w1.alloc o).grownBy w2 (some w1.heap.size)) : Below w.heap.size w w2 :=
  (hb.alloc hb.size o).grown hg (by have := hb.size; simp; omega) (fun k hk => by cases hk; exact hb.size)

theorem zzTakeIf_any (bk bt n x : Nat) (kz : Nat → Int) (ts : Nat → ByteArray) (op : ByteArray) (w : World) (hn : n ≤ 65536) (hx : x < n)
    (hk : ∀ i, i < n → w.cell? ⟨bk, i, none⟩ = some (.int .i64 (kz i))) (ht : ∀ i, i < n → w.cell? ⟨bt, i, none⟩ = some (.string (ts i))) (hbk : bk < w.heap.size) (hbt : bt < w.heap.size) :
    Calls Try.prog 15 #[.slice (some ⟨bk, 0, none⟩) n n, .slice (some ⟨bt, 0, none⟩) n n, .int .i64 (x : Nat), .string op] w fun e w' => ∃ y : Int, e = .returned (.tuple #[.int .i64 y, .bool (hitB (kz x) (ts x) op)]) ∧ Below w.heap.size w w' := by
  have htk := tokens_any bk bt n kz ts w hn hk ht hbk hbt
  clear hk ht
  by_cases hh : hitB (kz x) (ts x) op = true
  · have HH : Hid (hitB (kz x) (ts x) op = true) := hh
    clear hh
    go_enter Try.func15, Try.ntmps15
    go_wp2_with (first | (go_at_call 20; refine htk.mono ?_; rintro e w1 ⟨rfl, hT, hb⟩; clear htk; have HT : Hid (Toks w1 w.heap.size n n kz ts) := hT; have HB : Hid (Below w.heap.size w w1) := hb; clear hT hb) | (go_at_call 21; refine (takeIf_hit _ _ _ _ _ _ _ _ (view_new HT.out hx hn) HH.out).mono ?_; rintro e w2 ⟨rfl, hg, hy⟩))
    go_ret2
    exact ⟨(x : Int) + 1, by rw [HH.out]; rfl, below_grown_new HB.out hg⟩
  · have HH : Hid (hitB (kz x) (ts x) op = false) := by show hitB (kz x) (ts x) op = false; simpa using hh
    clear hh
    go_enter Try.func15, Try.ntmps15
    go_wp2_with (first | (go_at_call 20; refine htk.mono ?_; rintro e w1 ⟨rfl, hT, hb⟩; clear htk; have HT : Hid (Toks w1 w.heap.size n n kz ts) := hT; have HB : Hid (Below w.heap.size w w1) := hb; clear hT hb) | (go_at_call 21; refine (takeIf_miss _ _ _ _ _ _ _ _ (view_new HT.out hx hn) HH.out).mono ?_; rintro e w2 ⟨rfl, hg⟩; have hy := ((view_new HT.out hx hn).below hg).c2))
    go_ret2
    exact ⟨(x : Int), by rw [HH.out]; rfl, (HB.out.alloc HB.out.size _).trans (hg.mono (by have := HB.out.size; simp; omega))⟩

theorem zzTakeAny_any (bk bt n x : Nat) (kz : Nat → Int) (ts : Nat → ByteArray) (a : Option Addr) (m c : Nat) (os : Nat → ByteArray) (w : World) (hn : n ≤ 65536) (hx : x < n) (hm : m ≤ 65536)
    (hk : ∀ i, i < n → w.cell? ⟨bk, i, none⟩ = some (.int .i64 (kz i))) (ht : ∀ i, i < n → w.cell? ⟨bt, i, none⟩ = some (.string (ts i))) (hbk : bk < w.heap.size) (hbt : bt < w.heap.size) (hs : Strs w a m os) :
    Calls Try.prog 17 #[.slice (some ⟨bk, 0, none⟩) n n, .slice (some ⟨bt, 0, none⟩) n n, .int .i64 (x : Nat), .slice a m c] w fun e w' =>
      e = .returned (.tuple #[.int .i64 (kz x), .string (ts x), .int .i64 (x : Nat), .int .i64 (adv (anyB (kz x) (ts x) os m) x), .bool (anyB (kz x) (ts x) os m)]) ∧ Below w.heap.size w w' := by
  have htk := tokens_any bk bt n kz ts w hn hk ht hbk hbt
  have HS : Hid (Strs w a m os) := hs
  clear hk ht hs
  go_enter Try.func17, Try.ntmps17
  go_wp2_with (first | (go_at_call 20; refine htk.mono ?_; rintro e w1 ⟨rfl, hT, hb⟩; clear htk; have HT : Hid (Toks w1 w.heap.size n n kz ts) := hT; have HB : Hid (Below w.heap.size w w1) := hb; clear hT hb) | (go_at_call 22; refine (takeAny_any _ _ _ _ _ _ _ _ _ os _ (view_new HT.out hx hn) ((HS.out.below HB.out).below ((Below.refl _ _).alloc (Nat.le_refl _) _)) hm).mono ?_; rintro e w2 ⟨rfl, hg, hy⟩; have hz : w1.heap.size < w2.heap.size := by (have := hg.size; simp at this; omega)))
  go_quiet (fail)
  go_wp2
  exact bodyPost_ret (v := .tuple #[.int .i64 (kz x), .string (ts x), .int .i64 (x : Nat), .int .i64 (adv (anyB (kz x) (ts x) os m) x), .bool (anyB (kz x) (ts x) os m)]) (by simp [results, Try.results17, go_sem]) rfl
    ⟨rfl, below_drawn ((below_grown_new HB.out hg).alloc (below_grown_new HB.out hg).size _) _⟩
end Go.Proofs.Qxb6001179a
