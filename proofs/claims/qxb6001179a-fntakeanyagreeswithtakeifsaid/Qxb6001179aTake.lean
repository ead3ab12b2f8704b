/-
  Seat b6001179a. The contracts of the parser's methods peek (23), takeIf (21), takeAny (22).
-/
import Derived.Test.Qxb6001179aToks
import Derived.WalkKit
import Derived.ProofKit
import Derived.Below
import Derived.RegionTactic
import Derived.ChangeAlike
import Derived.Deep.OwnRows
namespace Go.Proofs.Qxb6001179a
open Go.ChangeShapes Go.WideShapes Go.ChangeAt Go.RowKit

/-- A parser at block bp, its tokens in block bt, n of them, 'next' at x; the token x holds kd, tx, x. -/
structure View (w : World) (bp bt n x : Nat) (kd : Int) (tx : ByteArray) : Prop where
  c1 : w.cell? ⟨bp, 1, none⟩ = some (.slice (some ⟨bt, 0, none⟩) n n)
  c2 : w.cell? ⟨bp, 2, none⟩ = some (.int .i64 (x : Nat))
  f2 : w.frozen? ⟨bp, 2, none⟩ = false
  t0 : w.cell? ⟨bt, x * 3, none⟩ = some (.int .i64 kd)
  t1 : w.cell? ⟨bt, x * 3 + 1, none⟩ = some (.string tx)
  t2 : w.cell? ⟨bt, x * 3 + 2, none⟩ = some (.int .i64 (x : Nat))
  lt : x < n
  le : n ≤ 65536
  bp : bp < w.heap.size
  bt : bt < w.heap.size

theorem View.below {w w' : World} {bp bt n x : Nat} {kd : Int} {tx : ByteArray} (h : View w bp bt n x kd tx) (hb : Below w.heap.size w w') : View w' bp bt n x kd tx :=
  ⟨(hb.cell (p := ⟨bp, 1, none⟩) h.bp).trans h.c1, (hb.cell (p := ⟨bp, 2, none⟩) h.bp).trans h.c2, (hb.frozen (p := ⟨bp, 2, none⟩) h.bp).trans h.f2,
    (hb.cell (p := ⟨bt, x * 3, none⟩) h.bt).trans h.t0, (hb.cell (p := ⟨bt, x * 3 + 1, none⟩) h.bt).trans h.t1, (hb.cell (p := ⟨bt, x * 3 + 2, none⟩) h.bt).trans h.t2,
    h.lt, h.le, Nat.lt_of_lt_of_le h.bp hb.size, Nat.lt_of_lt_of_le h.bt hb.size⟩

theorem peek_any (bp bt n x : Nat) (kd : Int) (tx : ByteArray) (w : World) (hv : View w bp bt n x kd tx) :
    Calls Try.prog 23 #[.pointer (some ⟨bp, 0, none⟩)] w fun e w' => e = .returned (.agg #[.int .i64 kd, .string tx, .int .i64 (x : Nat)]) ∧ Below w.heap.size w w' := by
  obtain ⟨c1, c2, f2, t0, t1, t2, hlt, hle, hbp, hbt⟩ := hv
  have hlt' : (x : Int) < (n : Int) := by omega
  go_enter Try.func23, Try.ntmps23
  go_wp2
  go_region
  go_wp2
  exact bodyPost_ret (v := .agg #[.int .i64 kd, .string tx, .int .i64 (x : Nat)]) (by simp [results, Try.results23, go_sem]) rfl ⟨rfl, ((Below.refl _ _).alloc (Nat.le_refl _) _).drew⟩

/-- The sign or name 'op' is what takeIf looks for. -/
def hitB (kd : Int) (tx op : ByteArray) : Bool := !(kd == 1) && !(kd == 0) && (tx.toList == op.toList)

theorem takeIf_miss (bp bt n x : Nat) (kd : Int) (tx op : ByteArray) (w : World) (hv : View w bp bt n x kd tx) (hm : hitB kd tx op = false) :
    Calls Try.prog 21 #[.pointer (some ⟨bp, 0, none⟩), .string op] w fun e w' => e = .returned (.bool false) ∧ Below w.heap.size w w' := by
  have hpk := peek_any bp bt n x kd tx w hv
  clear hv
  by_cases h1 : kd = 1
  · subst h1
    clear hm
    go_enter Try.func21, Try.ntmps21
    go_wp2_with (first | (go_at_call 23; refine hpk.mono ?_; rintro e w' ⟨rfl, hb⟩; clear hpk))
    go_ret
    exact ⟨rfl, hb.alloc hb.size _⟩
  · by_cases h0 : kd = 0
    · subst h0
      clear hm h1
      go_enter Try.func21, Try.ntmps21
      go_wp2_with (first | (go_at_call 23; refine hpk.mono ?_; rintro e w' ⟨rfl, hb⟩; clear hpk))
      go_ret
      exact ⟨rfl, hb.alloc hb.size _⟩
    · have e1 : (kd == 1) = false := by simpa using h1
      have e0 : (kd == 0) = false := by simpa using h0
      have hs : (tx.toList == op.toList) = false := by simpa [hitB, e1, e0] using hm
      clear hm h1 h0
      go_enter Try.func21, Try.ntmps21
      go_wp2_with (first | (go_at_call 23; refine hpk.mono ?_; rintro e w' ⟨rfl, hb⟩; clear hpk))
      go_ret
      exact ⟨rfl, hb.alloc hb.size _⟩

theorem grown_store {w w' : World} {bp o : Nat} (hb : Below w.heap.size w w') (_h : bp < w.heap.size) (v : Value) (ob : Obj) : w.grownBy ((w'.setCell ⟨bp, o, none⟩ v).alloc ob) (some bp) := by
  have hsz : (w'.setCell ⟨bp, o, none⟩ v).heap.size = w'.heap.size := by simp [World.setCell]
  refine ⟨hb.os, hb.tape, hb.output, by have := hb.size; simp; omega, fun k hk hne => ?_⟩
  rw [Below.heap_alloc _ _ _ (by rw [hsz]; have := hb.size; omega), Below.heap_setCell _ _ _ _ (by intro e; apply hne; rw [e])]
  exact hb.block k hk
theorem cell_store {w' : World} {bp : Nat} {u : Value} (hc : w'.cell? ⟨bp, 2, none⟩ = some u) (h : bp < w'.heap.size) (v : Value) (ob : Obj) : ((w'.setCell ⟨bp, 2, none⟩ v).alloc ob).cell? ⟨bp, 2, none⟩ = some v := by
  rw [World.cell?_alloc_past _ _ _ (by simpa [World.setCell] using h)]
  exact World.cell?_setCell_same (h := hc) ..
theorem takeIf_hit (bp bt n x : Nat) (kd : Int) (tx op : ByteArray) (w : World) (hv : View w bp bt n x kd tx) (hm : hitB kd tx op = true) :
    Calls Try.prog 21 #[.pointer (some ⟨bp, 0, none⟩), .string op] w fun e w' => e = .returned (.bool true) ∧ w.grownBy w' (some bp) ∧ w'.cell? ⟨bp, 2, none⟩ = some (.int .i64 ((x : Int) + 1)) := by
  have hpk := peek_any bp bt n x kd tx w hv
  have HV : Hid (View w bp bt n x kd tx) := hv
  have hbp := hv.bp
  have hxn := hv.lt
  have hnn := hv.le
  clear hv
  simp only [hitB, Bool.and_eq_true, Bool.not_eq_true'] at hm
  obtain ⟨⟨e1, e0⟩, hs⟩ := hm
  go_enter Try.func21, Try.ntmps21
  go_wp2_with (first | (go_at_call 23; refine hpk.mono ?_; rintro e w' ⟨rfl, hb⟩; have g2 := (HV.out.below hb).c2; have g3 := (HV.out.below hb).f2; have g4 := (HV.out.below hb).bp; clear hpk))
  go_ret
  exact ⟨rfl, grown_store hb hbp _ _, cell_store g2 g4 _ _⟩

/-- The words of a slice of strings: its elements, wherever they lie. -/
def Strs (w : World) (a : Option Addr) (m : Nat) (os : Nat → ByteArray) : Prop :=
  ∀ i, i < m → ∃ b off, a = some ⟨b, off, none⟩ ∧ b < w.heap.size ∧ w.cell? ⟨b, off + i, none⟩ = some (.string (os i))

theorem Strs.below {w w' : World} {a : Option Addr} {m : Nat} {os : Nat → ByteArray} (h : Strs w a m os) (hb : Below w.heap.size w w') : Strs w' a m os := fun i hi => by
  obtain ⟨b, off, ha, hlt, hc⟩ := h i hi
  exact ⟨b, off, ha, Nat.lt_of_lt_of_le hlt hb.size, (hb.cell (p := ⟨b, off + i, none⟩) hlt).trans hc⟩

/-- One of the first m words is hit. -/
def anyB (kd : Int) (tx : ByteArray) (os : Nat → ByteArray) : Nat → Bool
  | 0 => false
  | m + 1 => anyB kd tx os m || hitB kd tx (os m)

/-- Where 'next' stands behind the call. -/
def adv (b : Bool) (x : Nat) : Int := if b then (x : Int) + 1 else x

/-- Blocks of takeAny's own: the result at r, the token at t. -/
structure Mid (w wr : World) (bp bt n x : Nat) (kd : Int) (tx : ByteArray) (a : Option Addr) (m : Nat) (os : Nat → ByteArray) (t : Nat) : Prop where
  view : View wr bp bt n x kd tx
  strs : Strs wr a m os
  old : Below w.heap.size w wr
  bp : bp < w.heap.size
  ht : w.heap.size < t
  lt : t < wr.heap.size
  t0 : wr.cell? ⟨t, 0, none⟩ = some (.int .i64 kd)
  t1 : wr.cell? ⟨t, 1, none⟩ = some (.string tx)
  t2 : wr.cell? ⟨t, 2, none⟩ = some (.int .i64 (x : Nat))
  r0 : wr.cell? ⟨w.heap.size, 0, none⟩ = some (.int .i64 0)
  r1 : wr.cell? ⟨w.heap.size, 1, none⟩ = some (.string ⟨#[]⟩)
  r2 : wr.cell? ⟨w.heap.size, 2, none⟩ = some (.int .i64 0)
  z : ∀ o, wr.frozen? ⟨w.heap.size, o, none⟩ = false

theorem Mid.below {w wr w' : World} {bp bt n x : Nat} {kd : Int} {tx : ByteArray} {a : Option Addr} {m : Nat} {os : Nat → ByteArray} {t : Nat} (h : Mid w wr bp bt n x kd tx a m os t) (hb : Below wr.heap.size wr w') : Mid w w' bp bt n x kd tx a m os t :=
  have hr : w.heap.size < wr.heap.size := Nat.lt_trans h.ht h.lt
  ⟨h.view.below hb, h.strs.below hb, h.old.trans (hb.mono h.old.size), h.bp, h.ht, Nat.lt_of_lt_of_le h.lt hb.size,
    (hb.cell (p := ⟨t, 0, none⟩) h.lt).trans h.t0, (hb.cell (p := ⟨t, 1, none⟩) h.lt).trans h.t1, (hb.cell (p := ⟨t, 2, none⟩) h.lt).trans h.t2,
    (hb.cell (p := ⟨w.heap.size, 0, none⟩) hr).trans h.r0, (hb.cell (p := ⟨w.heap.size, 1, none⟩) hr).trans h.r1, (hb.cell (p := ⟨w.heap.size, 2, none⟩) hr).trans h.r2,
    fun o => (hb.frozen (p := ⟨w.heap.size, o, none⟩) hr).trans (h.z o)⟩

theorem grownBy_cell {w w' : World} {r : Nat} (hg : w.grownBy w' (some r)) {b o : Nat} (hb : b < w.heap.size) (hne : b ≠ r) : w'.cell? ⟨b, o, none⟩ = w.cell? ⟨b, o, none⟩ :=
  World.cell?_of_block (w := w) (a := ⟨b, o, none⟩) (hg.block b hb (by simpa using hne))
theorem grownBy_frozen {w w' : World} {r : Nat} (hg : w.grownBy w' (some r)) {b o : Nat} (hb : b < w.heap.size) (hne : b ≠ r) : w'.frozen? ⟨b, o, none⟩ = w.frozen? ⟨b, o, none⟩ :=
  World.frozen?_of_block (w := w) (a := ⟨b, o, none⟩) (hg.block b hb (by simpa using hne))

theorem grown_end {w wr w2 : World} {bp : Nat} (hb : Below w.heap.size w wr) (hg : wr.grownBy w2 (some bp)) (u0 u1 u2 : Value) :
    w.grownBy (((w2.setCell ⟨w.heap.size, 0, none⟩ u0).setCell ⟨w.heap.size, 1, none⟩ u1).setCell ⟨w.heap.size, 2, none⟩ u2) (some bp) := by
  refine ⟨hg.os.trans hb.os, hg.tape.trans hb.tape, hg.output.trans hb.output, ?_, fun k hk hne => ?_⟩
  · have := hb.size; have := hg.size; simp [World.setCell]; omega
  · rw [Below.heap_setCell _ _ _ _ (by show k ≠ w.heap.size; omega), Below.heap_setCell _ _ _ _ (by show k ≠ w.heap.size; omega), Below.heap_setCell _ _ _ _ (by show k ≠ w.heap.size; omega)]
    rw [hg.block k (Nat.lt_of_lt_of_le hk hb.size) hne]
    exact hb.block k hk
theorem cell_end {w w2 : World} {bp : Nat} (h : bp < w.heap.size) (u0 u1 u2 : Value) :
    (((w2.setCell ⟨w.heap.size, 0, none⟩ u0).setCell ⟨w.heap.size, 1, none⟩ u1).setCell ⟨w.heap.size, 2, none⟩ u2).cell? ⟨bp, 2, none⟩ = w2.cell? ⟨bp, 2, none⟩ := by
  have hne : ∀ o, (⟨w.heap.size, o, none⟩ : Addr) ≠ ⟨bp, 2, none⟩ := fun o e => by
    injection e with e1
    omega
  rw [World.cell?_setCell_other (h := hne 2), World.cell?_setCell_other (h := hne 1), World.cell?_setCell_other (h := hne 0)]

/-- What takeAny reads and writes behind a hit. -/
theorem Mid.hit {w wr w2 : World} {bp bt n x : Nat} {kd : Int} {tx : ByteArray} {a : Option Addr} {m : Nat} {os : Nat → ByteArray} {t : Nat} (h : Mid w wr bp bt n x kd tx a m os t) (hg : wr.grownBy w2 (some bp)) :
    (w2.cell? ⟨t, 0, none⟩ = some (.int .i64 kd) ∧ w2.cell? ⟨t, 1, none⟩ = some (.string tx) ∧ w2.cell? ⟨t, 2, none⟩ = some (.int .i64 (x : Nat))) ∧
    (w2.cell? ⟨w.heap.size, 0, none⟩ = some (.int .i64 0) ∧ w2.cell? ⟨w.heap.size, 1, none⟩ = some (.string ⟨#[]⟩) ∧ w2.cell? ⟨w.heap.size, 2, none⟩ = some (.int .i64 0)) ∧
    (w2.frozen? ⟨w.heap.size, 0, none⟩ = false ∧ w2.frozen? ⟨w.heap.size, 1, none⟩ = false ∧ w2.frozen? ⟨w.heap.size, 2, none⟩ = false) ∧ w.heap.size < t := by
  have h1 : t ≠ bp := by have := h.ht; have := h.bp; omega
  have h2 : w.heap.size ≠ bp := by have := h.bp; omega
  have h3 : w.heap.size < wr.heap.size := by have := h.ht; have := h.lt; omega
  exact ⟨⟨(grownBy_cell hg h.lt h1).trans h.t0, (grownBy_cell hg h.lt h1).trans h.t1, (grownBy_cell hg h.lt h1).trans h.t2⟩,
    ⟨(grownBy_cell hg h3 h2).trans h.r0, (grownBy_cell hg h3 h2).trans h.r1, (grownBy_cell hg h3 h2).trans h.r2⟩,
    ⟨(grownBy_frozen hg h3 h2).trans (h.z _), (grownBy_frozen hg h3 h2).trans (h.z _), (grownBy_frozen hg h3 h2).trans (h.z _)⟩, h.ht⟩

theorem anyB_le (kd : Int) (tx : ByteArray) (os : Nat → ByteArray) : ∀ (m k : Nat), k < m → hitB kd tx (os k) = true → anyB kd tx os m = true
  | 0, k, h, _ => absurd h (Nat.not_lt_zero _)
  | m + 1, k, h, hh => by
    by_cases e : k = m
    · subst e; simp [anyB, hh]
    · simp [anyB, anyB_le kd tx os m k (by omega) hh]

theorem grownBy_refl (w : World) (r : Option Nat) : w.grownBy w r := ⟨rfl, rfl, rfl, Nat.le_refl _, fun _ _ _ => rfl⟩

set_option maxHeartbeats 1000000 in
theorem takeAny_any (bp bt n x : Nat) (kd : Int) (tx : ByteArray) (a : Option Addr) (m c : Nat) (os : Nat → ByteArray) (w : World) (hv : View w bp bt n x kd tx) (hs : Strs w a m os) (hm : m ≤ 65536) :
    Calls Try.prog 22 #[.pointer (some ⟨bp, 0, none⟩), .slice a m c] w fun e w' => e = .returned (.tuple #[.agg #[.int .i64 kd, .string tx, .int .i64 (x : Nat)], .bool (anyB kd tx os m)]) ∧
      w.grownBy w' (some bp) ∧ w'.cell? ⟨bp, 2, none⟩ = some (.int .i64 (adv (anyB kd tx os m) x)) := by
  have hpk := fun o => peek_any bp bt n x kd tx (w.alloc o) (hv.below ((Below.refl _ _).alloc (Nat.le_refl _) _))
  have HV : Hid (View w bp bt n x kd tx) := hv
  have HS : Hid (Strs w a m os) := hs
  clear hv hs
  go_enter Try.func22, Try.ntmps22
  go_wp2_with (first | (go_at_call 23; refine (hpk _).mono ?_; rintro e w' ⟨rfl, hb⟩; clear hpk))
  have hM : Mid w (w'.alloc (Obj.cells #[Value.int IntKind.i64 kd, Value.string tx, Value.int IntKind.i64 (x : Nat)] 42)) bp bt n x kd tx a m os w'.heap.size := by
    have hb0 : Below w.heap.size w w' := ((Below.refl _ _).alloc (Nat.le_refl _) _).trans (hb.mono (by simp))
    have hsz : w.heap.size < w'.heap.size := by have := hb.size; simp at this; omega
    have hb1 : Below w.heap.size w (w'.alloc (Obj.cells #[Value.int IntKind.i64 kd, Value.string tx, Value.int IntKind.i64 (x : Nat)] 42)) := hb0.alloc (by omega) _
    have hold : ∀ o, (w'.alloc (Obj.cells #[Value.int IntKind.i64 kd, Value.string tx, Value.int IntKind.i64 (x : Nat)] 42)).cell? ⟨w.heap.size, o, none⟩ = _ := fun o => (World.cell?_alloc_past _ _ o hsz).trans (hb.cell (p := ⟨w.heap.size, o, none⟩) (by simp))
    have hfro : ∀ o, (w'.alloc (Obj.cells #[Value.int IntKind.i64 kd, Value.string tx, Value.int IntKind.i64 (x : Nat)] 42)).frozen? ⟨w.heap.size, o, none⟩ = false := fun o =>
      (World.frozen?_alloc_old _ _ _ (by show w.heap.size ≠ _; omega)).trans ((hb.frozen (p := ⟨w.heap.size, o, none⟩) (by simp)).trans (by unfold World.frozen?; rw [Go.Deep.blk_alloc_new]; simp))
    refine ⟨HV.out.below hb1, HS.out.below hb1, hb1, HV.out.bp, hsz, by simp, by simp, by simp, by simp, ?_, ?_, ?_, hfro⟩
    · rw [hold]; simp
    · rw [hold]; simp
    · rw [hold]; simp
  have HM : Hid (Mid w (w'.alloc (Obj.cells #[Value.int IntKind.i64 kd, Value.string tx, Value.int IntKind.i64 (x : Nat)] 42)) bp bt n x kd tx a m os w'.heap.size) := hM
  clear hb HV HS hM
  go_loopw [13] (fun i wr => ∃ k : Nat, k ≤ m ∧ i = .int .i64 k ∧ Hid (anyB kd tx os k = false) ∧ Hid (Mid w wr bp bt n x kd tx a m os w'.heap.size)) (fun i _ => m - (intOf i).toNat)
  case atStart => exact ⟨0, Nat.zero_le _, rfl, rfl, HM⟩
  case round =>
    clear HM
    obtain ⟨k, hk, rfl, HA, HM⟩ := hrel
    by_cases hlt : k < m
    · obtain ⟨b, off, rfl, hbl, hc⟩ := HM.out.strs k hlt
      by_cases hh : hitB kd tx (os k) = true
      · have hti := takeIf_hit bp bt n x kd tx (os k) wr HM.out.view hh
        have HH : Hid (anyB kd tx os m = true) := anyB_le kd tx os m k hlt hh
        clear hh
        go_wp2_with (first | (go_at_call 21; refine hti.mono ?_; rintro e w2 ⟨rfl, hg, hx⟩; clear hti; obtain ⟨⟨q0, q1, q2⟩, ⟨s0, s1, s2⟩, ⟨z0, z1, z2⟩, ht⟩ := HM.out.hit hg))
        refine bodyPost_ret (v := .tuple #[.agg #[.int .i64 kd, .string tx, .int .i64 (x : Nat)], .bool true]) (by simp [results, Try.results22, go_sem, s0, s1, s2]) rfl ⟨by rw [HH.out], grown_end HM.out.old hg _ _ _, ?_⟩
        rw [cell_end HM.out.bp, hx, HH.out]; rfl
      · have hti := takeIf_miss bp bt n x kd tx (os k) wr HM.out.view (by simpa using hh)
        have HH : Hid (anyB kd tx os (k + 1) = false) := by show anyB kd tx os (k + 1) = false; simp only [anyB, HA.out]; simpa using hh
        clear hh
        go_wp2_with (first | (go_at_call 21; refine hti.mono ?_; rintro e w2 ⟨rfl, hg⟩; clear hti))
        go_roundw
        case rel => exact ⟨k + 1, by omega, by go_num, HH, HM.out.below hg⟩
        case measure => simp [intOf]; omega
    · have hkk : k = m := by omega
      subst hkk
      obtain ⟨⟨q0, q1, q2⟩, ⟨s0, s1, s2⟩, ⟨z0, z1, z2⟩, ht⟩ := HM.out.hit (grownBy_refl wr _)
      go_wp2
      refine bodyPost_ret (v := .tuple #[.agg #[.int .i64 kd, .string tx, .int .i64 (x : Nat)], .bool false]) (by simp [results, Try.results22, go_sem, s0, s1, s2]) rfl ⟨by rw [HA.out], grown_end HM.out.old (grownBy_refl wr _) _ _ _, ?_⟩
      rw [cell_end HM.out.bp, HM.out.view.c2, HA.out]; rfl
end Go.Proofs.Qxb6001179a
