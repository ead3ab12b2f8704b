/-
  No cell of these rows narrows 'for every input' (looked for: loops, veiled, ifaces, maps, wideKeys, modest, calm, conditions, laid).
  DERIVED. THE GIVEN ROWS OF THIS SEAT. 3 by the template 'for every input the law returns true; each argument reads behind the call as it read before'; 0 by the template 'total and deterministic' (their statements: Qxb6001494aTotals.lean).
  GIVEN WITH THE SEED: the statements are not yours to turn. If you find one false, say at which input.
  Laid BY PROGRAM, IN A SANDBOX (cutbox-rows.mjs): the forced cells as the released guide's own fill.sh prints them over the translation 8c6baa34e218fa8f… (all of the seat's roots in one cut). By AI agents, Wed Nov 11 2026. No macro, syntax, notation, axiom, sorry.
-/
import Derived.Test.Qxb6001494aChecked
import GoSem.Claim
import GoSem.ClaimJoined
import GoSem.ClaimMapViews
import Derived.JoinedTies
import Derived.KernelRfl
namespace Go.Proofs.Qxb6001494a
/- THE CELL 'sum', in the pinned program and in every row, IS THE sha256 OF THE DUMP (.gsa) THAT Qxb6001494aProg.lean LOADS. Nothing in Lean hashes anything: it is a label: what it is worth is what the hold of that sum in a sandbox is worth. -/
noncomputable def Try.pinned : Pinned := { name := "qxb6001494a", sum := "8c6baa34e218fa8fa9efaf70c3da43c1e05f81fc8f03489f561c2ba3df40a96d", checked := Try.checked }
namespace Rows
def none {H : Type} : Left H := { results := [], args := [] }

/-- 'zzlaws_field_b1.FnInsideAssociative': WHATEVER THE INPUT: true; the input reads as it did. -/
def fnInsideAssociativeSpec : ChangeSpec := { name := "fnInsideAssociative", fn := fun _ => fun
  | [d1, d2, d3] => { results := [.lit (.bool true)], args := [d1, d2, d3] }
  | _ => none }
def fnInsideAssociativeRow : OpenClaim := { program := "qxb6001494a", sum := "8c6baa34e218fa8fa9efaf70c3da43c1e05f81fc8f03489f561c2ba3df40a96d", func := "example.com/vestbook/vestbook/zzlaws_field_b1.FnInsideAssociative", spec := "fnInsideAssociative", apart := false }
def FnInsideAssociativeSaid : Prop := fnInsideAssociativeRow.holds Try.pinned (OpenSpec.ofChange fnInsideAssociativeSpec)

/-- ITS FALSE NEIGHBOUR: 'it returns false'. Refute it at one input. -/
def fnInsideAssociativeWrong : ChangeSpec := { name := "fnInsideAssociative", fn := fun _ => fun
  | [d1, d2, d3] => { results := [.lit (.bool false)], args := [d1, d2, d3] }
  | _ => none }
def FnInsideAssociativeWrongFalsely : Prop := fnInsideAssociativeRow.holds Try.pinned (OpenSpec.ofChange fnInsideAssociativeWrong)

/-- 'zzlaws_field_b1.FnInsideInjective': WHATEVER THE INPUT: true; the input reads as it did. -/
def fnInsideInjectiveSpec : ChangeSpec := { name := "fnInsideInjective", fn := fun _ => fun
  | [d1, d2, d3, d4] => { results := [.lit (.bool true)], args := [d1, d2, d3, d4] }
  | _ => none }
def fnInsideInjectiveRow : OpenClaim := { program := "qxb6001494a", sum := "8c6baa34e218fa8fa9efaf70c3da43c1e05f81fc8f03489f561c2ba3df40a96d", func := "example.com/vestbook/vestbook/zzlaws_field_b1.FnInsideInjective", spec := "fnInsideInjective", apart := false }
def FnInsideInjectiveSaid : Prop := fnInsideInjectiveRow.holds Try.pinned (OpenSpec.ofChange fnInsideInjectiveSpec)

/-- ITS FALSE NEIGHBOUR: 'it returns false'. Refute it at one input. -/
def fnInsideInjectiveWrong : ChangeSpec := { name := "fnInsideInjective", fn := fun _ => fun
  | [d1, d2, d3, d4] => { results := [.lit (.bool false)], args := [d1, d2, d3, d4] }
  | _ => none }
def FnInsideInjectiveWrongFalsely : Prop := fnInsideInjectiveRow.holds Try.pinned (OpenSpec.ofChange fnInsideInjectiveWrong)

/-- 'zzlaws_field_b1.FnInsideSplitAtLastDot': WHATEVER THE INPUT: true; the input reads as it did. -/
def fnInsideSplitAtLastDotSpec : ChangeSpec := { name := "fnInsideSplitAtLastDot", fn := fun _ => fun
  | [d1, d2] => { results := [.lit (.bool true)], args := [d1, d2] }
  | _ => none }
def fnInsideSplitAtLastDotRow : OpenClaim := { program := "qxb6001494a", sum := "8c6baa34e218fa8fa9efaf70c3da43c1e05f81fc8f03489f561c2ba3df40a96d", func := "example.com/vestbook/vestbook/zzlaws_field_b1.FnInsideSplitAtLastDot", spec := "fnInsideSplitAtLastDot", apart := false }
def FnInsideSplitAtLastDotSaid : Prop := fnInsideSplitAtLastDotRow.holds Try.pinned (OpenSpec.ofChange fnInsideSplitAtLastDotSpec)

/-- ITS FALSE NEIGHBOUR: 'it returns false'. Refute it at one input. -/
def fnInsideSplitAtLastDotWrong : ChangeSpec := { name := "fnInsideSplitAtLastDot", fn := fun _ => fun
  | [d1, d2] => { results := [.lit (.bool false)], args := [d1, d2] }
  | _ => none }
def FnInsideSplitAtLastDotWrongFalsely : Prop := fnInsideSplitAtLastDotRow.holds Try.pinned (OpenSpec.ofChange fnInsideSplitAtLastDotWrong)

end Rows
end Go.Proofs.Qxb6001494a
