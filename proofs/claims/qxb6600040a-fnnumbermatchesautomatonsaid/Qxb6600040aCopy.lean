/-
  Seat b6600040a. 'zzc := make([]T, len(x)); copy(zzc, x)' with T of one cell: a law for the walk: behind the copy the new row holds what x held, and nothing old has turned.
-/
import Derived.Test.Qxb6600040aRows
import Derived.WalkKit
import Derived.ProofKit
import Derived.Below
import Derived.Deep.OwnRows
import Derived.Laws.CopyOwn
namespace Go.Proofs.Qxb6600040a
open Go.ChangeShapes Go.WideShapes Go.ChangeAt Go.RowKit

/-- The elements of a slice whose elements are one cell each, wherever they lie: element i is f i. -/
def Elems (w : World) (a : Option Addr) (n : Nat) (f : Nat → Value) : Prop :=
  ∀ i, i < n → ∃ b off, a = some ⟨b, off, none⟩ ∧ b < w.heap.size ∧ w.cell? ⟨b, off + i, none⟩ = some (f i)

theorem Elems.below {w w' : World} {a : Option Addr} {n : Nat} {f : Nat → Value} (h : Elems w a n f) (hb : Below w.heap.size w w') : Elems w' a n f := fun i hi => by
  obtain ⟨b, off, ha, hlt, hc⟩ := h i hi
  exact ⟨b, off, ha, Nat.lt_of_lt_of_le hlt hb.size, (hb.cell (p := ⟨b, off + i, none⟩) hlt).trans hc⟩

theorem add_plain (b o j : Nat) : (⟨b, o, none⟩ : Addr).add j = ⟨b, o + j, none⟩ := by unfold Addr.add; split <;> simp_all

theorem wpList_copy_new {P : Program} {W0 : World} {ops : Array Oper} {rest : List Oper} {o : Oper} {a : Act} {Q : Exit → Act → World → Prop} (hgd : o.guard = none) (d s : Operand) (dT sT : TypeId)
    (ho : o.op = .call { callee := .builtin .copy, args := #[d, s], argTypes := #[dT, sT] }) (elem : TypeId) (hu : P.underlying dT = some (.slice elem)) (hsz : (P.info? elem).map (·.size) = some 1)
    (z : Value) (n : Nat) (sp : Option Addr) (sCap : Nat) (hd : a.eval d = .slice (some ⟨W0.heap.size, 0, none⟩) n n) (hs : a.eval s = .slice sp n sCap)
    (f : Nat → Value) (hE : Elems W0 sp n f) (h1 : ∀ i, (f i).oneCell' = true)
    (h : ∀ w', Hid (w'.rowIs W0.heap.size elem n f) → Hid (Below W0.heap.size W0 w') → wpList P ops Q rest (a.put o.dst (goInt n)) w') :
    wpList P ops Q (o :: rest) a (W0.alloc (.cells (madeCells #[z] n) elem)) := by
  have hlen : ((List.range n).map f).length = n := by simp
  have hcur : (madeCells #[z] n).toList.length = n := by simp [size_madeCells]
  have hsp : splice (madeCells #[z] n).toList 0 ((List.range n).map f) = (List.range n).map f := by
    simp [splice, List.drop_eq_nil_of_le (show (madeCells #[z] n).toList.length ≤ n by rw [hcur]; exact Nat.le_refl _)]
  refine wpList_copy_splice hgd d s dT sT ho elem hu hsz (some ⟨W0.heap.size, 0, none⟩) sp n n n sCap hd hs W0.heap.size 0 (madeCells #[z] n).toList elem (by rw [Go.Deep.blk_alloc_new]) ((List.range n).map f) (by rw [hlen]; exact (Nat.min_self n).symm) ?_ (by rw [hlen, hcur]; omega) ?_ W0.heap.size W0 ((Below.refl _ _).alloc (Nat.le_refl _) _) (Nat.le_refl _) ?_
  · intro hpos
    rw [hlen] at hpos
    obtain ⟨b, off, ha, hlt, hc⟩ := hE 0 hpos
    refine ⟨rfl, ⟨b, off, none⟩, ha, fun j v hj => ?_⟩
    have hjn : j < n := by
      have := (List.getElem?_eq_some_iff.1 hj).1
      rw [hlen] at this
      exact this
    obtain ⟨b', off', ha', _, hc'⟩ := hE j hjn
    rw [ha] at ha'
    simp only [Option.some.injEq, Addr.mk.injEq, and_true] at ha'
    obtain ⟨rfl, rfl⟩ := ha'
    rw [add_plain, World.cell?_alloc_past _ _ _ hlt, hc']
    simpa [hjn] using hj
  · intro v hv
    obtain ⟨i, _, rfl⟩ := List.mem_map.1 hv
    exact h1 i
  · intro w' hrow hb
    rw [hlen]
    refine h w' ?_ hb
    have hr := hrow.out
    rw [hsp] at hr
    exact ⟨_, hr, by simp, fun i hi => by simp [hi]⟩
end Go.Proofs.Qxb6600040a
