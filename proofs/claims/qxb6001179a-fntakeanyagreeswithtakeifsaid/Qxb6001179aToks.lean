/-
  Seat b6001179a. The contract of 'condition.zzTokens' (20): the tokens laid out in a new row.
-/
import Derived.Test.Qxb6001179aRows
import Derived.WalkKit
import Derived.ProofKit
import Derived.Below
import Derived.RegionTactic
import Derived.ChangeAlike
import Derived.Deep.OwnRows
namespace Go.Proofs.Qxb6001179a
open Go.ChangeShapes Go.WideShapes Go.ChangeAt Go.RowKit

theorem info42 : (Try.prog.info? 42).map (fun i => (i.zero, i.size, i.bytes)) = some (some (.agg #[.int .i64 0, .string ⟨#[]⟩, .int .i64 0]), 3, 32) := by kernel_rfl

/-- Block b is a row of n tokens (three cells each), none frozen; the first k of them hold kz, ts and their own index. -/
def Toks (w : World) (b n k : Nat) (kz : Nat → Int) (ts : Nat → ByteArray) : Prop :=
  ∃ c : Array Value, w.heap[b]? = some (.cells c 42 (0, 0)) ∧ c.size = 3 * n ∧
    ∀ j, j < k → c[j * 3]? = some (.int .i64 (kz j)) ∧ c[j * 3 + 1]? = some (.string (ts j)) ∧ c[j * 3 + 2]? = some (.int .i64 (j : Nat))

theorem make_toks (n : Nat) (hn : n ≤ 65536) : ∃ C : Array Value, C.size = 3 * n ∧ ∀ w : World, (Instr.makeSlice 35 (.int .i64 (n : Int)) (.int .i64 (n : Int))).run Try.prog w = .ok (.slice (some ⟨w.heap.size, 0, none⟩) n n) (w.alloc (.cells C 42)) := by
  obtain ⟨i, hi, hz, hs, hb⟩ := info_parts info42
  refine ⟨madeCells #[.int .i64 0, .string ⟨#[]⟩, .int .i64 0] (n * 3), by rw [size_madeCells]; omega, fun w => ?_⟩
  have h := run_make (P := Try.prog) w 35 42 i _ Try.underlying35 hi hz .i64 .i64 n n (by omega) (Int.le_refl _) (by rw [hb]; omega) (by omega)
  rw [hs] at h
  exact h

theorem toks_made (w : World) (n : Nat) (C : Array Value) (hC : C.size = 3 * n) (kz : Nat → Int) (ts : Nat → ByteArray) : Toks (w.alloc (.cells C 42)) w.heap.size n 0 kz ts :=
  ⟨C, Go.Deep.blk_alloc_new _ _, hC, fun _ hj => absurd hj (Nat.not_lt_zero _)⟩

theorem toks_there {w : World} {b n k : Nat} {kz : Nat → Int} {ts : Nat → ByteArray} (h : Toks w b n k kz ts) (o : Nat) (ho : o < 3 * n) : (∃ v, w.cell? ⟨b, o, none⟩ = some v) ∧ w.frozen? ⟨b, o, none⟩ = false := by
  obtain ⟨c, hb, hc, _⟩ := h
  exact ⟨⟨c[o]'(by omega), by simp [World.cell?, hb, show o < c.size by omega]⟩, by simp [World.frozen?, hb]⟩

theorem toks_step {w : World} {b n k : Nat} {kz : Nat → Int} {ts : Nat → ByteArray} (h : Toks w b n k kz ts) (hk : k < n) :
    Toks (((w.setCell ⟨b, k * 3, none⟩ (.int .i64 (kz k))).setCell ⟨b, k * 3 + 1, none⟩ (.string (ts k))).setCell ⟨b, k * 3 + 2, none⟩ (.int .i64 (k : Nat))) b n (k + 1) kz ts := by
  obtain ⟨c, hb, hc, hj⟩ := h
  refine ⟨((c.setIfInBounds (k * 3) (.int .i64 (kz k))).setIfInBounds (k * 3 + 1) (.string (ts k))).setIfInBounds (k * 3 + 2) (.int .i64 (k : Nat)), ?_, by simpa using hc, fun j hjk => ?_⟩
  · simp [World.setCell, Array.getElem?_modify, hb]
  · simp only [Array.getElem?_setIfInBounds, Array.size_setIfInBounds]
    by_cases e : j = k
    · subst e
      have h0 : j * 3 < c.size := by omega
      have h1 : j * 3 + 1 < c.size := by omega
      have h2 : j * 3 + 2 < c.size := by omega
      simp [h0, h1, h2]
    · have a0 : ¬ k * 3 = j * 3 := by omega
      have a1 : ¬ k * 3 + 1 = j * 3 := by omega
      have a2 : ¬ k * 3 + 2 = j * 3 := by omega
      have b0 : ¬ k * 3 = j * 3 + 1 := by omega
      have b1 : ¬ k * 3 + 1 = j * 3 + 1 := by omega
      have b2 : ¬ k * 3 + 2 = j * 3 + 1 := by omega
      have d0 : ¬ k * 3 = j * 3 + 2 := by omega
      have d1 : ¬ k * 3 + 1 = j * 3 + 2 := by omega
      have d2 : ¬ k * 3 + 2 = j * 3 + 2 := by omega
      rw [if_neg a2, if_neg a1, if_neg a0, if_neg b2, if_neg b1, if_neg b0, if_neg d2, if_neg d1, if_neg d0]
      exact hj j (by omega)

theorem toks_drew {w : World} {b n k : Nat} {kz : Nat → Int} {ts : Nat → ByteArray} (h : Toks w b n k kz ts) : Toks w.drew b n k kz ts := h

theorem tokens_any (bk bt n : Nat) (kz : Nat → Int) (ts : Nat → ByteArray) (w : World) (hn : n ≤ 65536)
    (hk : ∀ i, i < n → w.cell? ⟨bk, i, none⟩ = some (.int .i64 (kz i))) (ht : ∀ i, i < n → w.cell? ⟨bt, i, none⟩ = some (.string (ts i))) (hbk : bk < w.heap.size) (hbt : bt < w.heap.size) :
    Calls Try.prog 20 #[.slice (some ⟨bk, 0, none⟩) n n, .slice (some ⟨bt, 0, none⟩) n n] w fun e w' => e = .returned (.slice (some ⟨w.heap.size, 0, none⟩) n n) ∧ Toks w' w.heap.size n n kz ts ∧ Below w.heap.size w w' := by
  obtain ⟨C, hC, hmk⟩ := make_toks n hn
  have HK : Hid (∀ i, i < n → w.cell? ⟨bk, i, none⟩ = some (.int .i64 (kz i))) := hk
  have HT : Hid (∀ i, i < n → w.cell? ⟨bt, i, none⟩ = some (.string (ts i))) := ht
  have HC : Hid (C.size = 3 * n) := hC
  clear hk ht hC
  go_enter Try.func20, Try.ntmps20
  go_wp2
  clear hmk
  go_loopw [7] (fun i wr => ∃ k : Nat, k ≤ n ∧ i = .int .i64 k ∧ Toks wr w.heap.size n k kz ts ∧ Below w.heap.size w wr) (fun i _ => n - (intOf i).toNat)
  case atStart => exact ⟨0, Nat.zero_le _, rfl, toks_made w n C HC.out kz ts, (Below.refl _ _).alloc (Nat.le_refl _) _⟩
  case round =>
    obtain ⟨k, hk, rfl, hT, hB⟩ := hrel
    by_cases hlt : k < n
    · have g1 : wr.cell? ⟨bk, k, none⟩ = some (.int .i64 (kz k)) := (hB.cell (p := ⟨bk, k, none⟩) hbk).trans (HK.out k hlt)
      have g2 : wr.cell? ⟨bt, k, none⟩ = some (.string (ts k)) := (hB.cell (p := ⟨bt, k, none⟩) hbt).trans (HT.out k hlt)
      obtain ⟨⟨v0, c0⟩, f0⟩ := toks_there hT (k * 3) (by omega)
      obtain ⟨⟨v1, c1⟩, f1⟩ := toks_there hT (k * 3 + 1) (by omega)
      obtain ⟨⟨v2, c2⟩, f2⟩ := toks_there hT (k * 3 + 2) (by omega)
      have HTk : Hid (Toks wr w.heap.size n k kz ts) := hT
      have HB : Hid (Below w.heap.size w wr) := hB
      clear hT hB
      go_wp2
      go_region
      go_wp2
      go_roundw
      case rel => exact ⟨k + 1, by omega, by go_num, toks_step HTk.out hlt, (((HB.out.setCell (Nat.le_refl _) _).setCell (Nat.le_refl _) _).setCell (Nat.le_refl _) _).drew⟩
      case measure => simp [intOf]; omega
    · have hkk : k = n := by omega
      subst hkk
      go_wp2
      go_ret
      exact ⟨rfl, hT, hB⟩
end Go.Proofs.Qxb6001179a
