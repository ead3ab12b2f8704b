/-
  No cell of these rows narrows 'for every input' (looked for: loops, veiled, ifaces, maps, wideKeys, modest, calm, conditions, laid).
  DERIVED. THE GIVEN ROWS OF THIS SEAT. 6 by the template 'for every input the law returns true; each argument reads behind the call as it read before'; 0 by the template 'total and deterministic' (their statements: Qxb6001179aTotals.lean).
  GIVEN WITH THE SEED: the statements are not yours to turn. If you find one false, say at which input.
  Laid BY PROGRAM, IN A SANDBOX (cutbox-rows.mjs): the forced cells as the released guide's own fill.sh prints them over the translation e180d774c855da2f… (all of the seat's roots in one cut). By AI agents, Wed Nov 11 2026. No macro, syntax, notation, axiom, sorry.
-/
import Derived.Test.Qxb6001179aChecked
import GoSem.Claim
import GoSem.ClaimJoined
import GoSem.ClaimMapViews
import Derived.JoinedTies
import Derived.KernelRfl
namespace Go.Proofs.Qxb6001179a
/- THE CELL 'sum', in the pinned program and in every row, IS THE sha256 OF THE DUMP (.gsa) THAT Qxb6001179aProg.lean LOADS. Nothing in Lean hashes anything: it is a label: what it is worth is what the hold of that sum in a sandbox is worth. -/
noncomputable def Try.pinned : Pinned := { name := "qxb6001179a", sum := "e180d774c855da2f845b4833d9f7bb081e3cdc14139d1bc05c0aa12b57ba59c9", checked := Try.checked }
namespace Rows
def none {H : Type} : Left H := { results := [], args := [] }

/-- 'zzlaws_pkg_condition_b1.FnCutBounds': WHATEVER THE INPUT: true; the input reads as it did. -/
def fnCutBoundsSpec : ChangeSpec := { name := "fnCutBounds", fn := fun _ => fun
  | [d] => { results := [.lit (.bool true)], args := [d] }
  | _ => none }
def fnCutBoundsRow : OpenClaim := { program := "qxb6001179a", sum := "e180d774c855da2f845b4833d9f7bb081e3cdc14139d1bc05c0aa12b57ba59c9", func := "example.com/tranchebook/tranchebook/zzlaws_pkg_condition_b1.FnCutBounds", spec := "fnCutBounds", apart := false }
def FnCutBoundsSaid : Prop := fnCutBoundsRow.holds Try.pinned (OpenSpec.ofChange fnCutBoundsSpec)

/-- ITS FALSE NEIGHBOUR: 'it returns false'. Refute it at one input. -/
def fnCutBoundsWrong : ChangeSpec := { name := "fnCutBounds", fn := fun _ => fun
  | [d] => { results := [.lit (.bool false)], args := [d] }
  | _ => none }
def FnCutBoundsWrongFalsely : Prop := fnCutBoundsRow.holds Try.pinned (OpenSpec.ofChange fnCutBoundsWrong)

/-- 'zzlaws_pkg_condition_b1.FnCutIdempotent': WHATEVER THE INPUT: true; the input reads as it did. -/
def fnCutIdempotentSpec : ChangeSpec := { name := "fnCutIdempotent", fn := fun _ => fun
  | [d] => { results := [.lit (.bool true)], args := [d] }
  | _ => none }
def fnCutIdempotentRow : OpenClaim := { program := "qxb6001179a", sum := "e180d774c855da2f845b4833d9f7bb081e3cdc14139d1bc05c0aa12b57ba59c9", func := "example.com/tranchebook/tranchebook/zzlaws_pkg_condition_b1.FnCutIdempotent", spec := "fnCutIdempotent", apart := false }
def FnCutIdempotentSaid : Prop := fnCutIdempotentRow.holds Try.pinned (OpenSpec.ofChange fnCutIdempotentSpec)

/-- ITS FALSE NEIGHBOUR: 'it returns false'. Refute it at one input. -/
def fnCutIdempotentWrong : ChangeSpec := { name := "fnCutIdempotent", fn := fun _ => fun
  | [d] => { results := [.lit (.bool false)], args := [d] }
  | _ => none }
def FnCutIdempotentWrongFalsely : Prop := fnCutIdempotentRow.holds Try.pinned (OpenSpec.ofChange fnCutIdempotentWrong)

/-- 'zzlaws_pkg_condition_b1.FnCutASCIIExact': WHATEVER THE INPUT: true; the input reads as it did. -/
def fnCutASCIIExactSpec : ChangeSpec := { name := "fnCutASCIIExact", fn := fun _ => fun
  | [d] => { results := [.lit (.bool true)], args := [d] }
  | _ => none }
def fnCutASCIIExactRow : OpenClaim := { program := "qxb6001179a", sum := "e180d774c855da2f845b4833d9f7bb081e3cdc14139d1bc05c0aa12b57ba59c9", func := "example.com/tranchebook/tranchebook/zzlaws_pkg_condition_b1.FnCutASCIIExact", spec := "fnCutASCIIExact", apart := false }
def FnCutASCIIExactSaid : Prop := fnCutASCIIExactRow.holds Try.pinned (OpenSpec.ofChange fnCutASCIIExactSpec)

/-- ITS FALSE NEIGHBOUR: 'it returns false'. Refute it at one input. -/
def fnCutASCIIExactWrong : ChangeSpec := { name := "fnCutASCIIExact", fn := fun _ => fun
  | [d] => { results := [.lit (.bool false)], args := [d] }
  | _ => none }
def FnCutASCIIExactWrongFalsely : Prop := fnCutASCIIExactRow.holds Try.pinned (OpenSpec.ofChange fnCutASCIIExactWrong)

/-- 'zzlaws_pkg_condition_b1.FnTakeIfLocal': WHATEVER THE INPUT: true; the input reads as it did. -/
def fnTakeIfLocalSpec : ChangeSpec := { name := "fnTakeIfLocal", fn := fun _ => fun
  | [d1, d2, d3, d4] => { results := [.lit (.bool true)], args := [d1, d2, d3, d4] }
  | _ => none }
def fnTakeIfLocalRow : OpenClaim := { program := "qxb6001179a", sum := "e180d774c855da2f845b4833d9f7bb081e3cdc14139d1bc05c0aa12b57ba59c9", func := "example.com/tranchebook/tranchebook/zzlaws_pkg_condition_b1.FnTakeIfLocal", spec := "fnTakeIfLocal", apart := false }
def FnTakeIfLocalSaid : Prop := fnTakeIfLocalRow.holds Try.pinned (OpenSpec.ofChange fnTakeIfLocalSpec)

/-- ITS FALSE NEIGHBOUR: 'it returns false'. Refute it at one input. -/
def fnTakeIfLocalWrong : ChangeSpec := { name := "fnTakeIfLocal", fn := fun _ => fun
  | [d1, d2, d3, d4] => { results := [.lit (.bool false)], args := [d1, d2, d3, d4] }
  | _ => none }
def FnTakeIfLocalWrongFalsely : Prop := fnTakeIfLocalRow.holds Try.pinned (OpenSpec.ofChange fnTakeIfLocalWrong)

/-- 'zzlaws_pkg_condition_b1.FnTakeAnyAgreesWithTakeIf': WHATEVER THE INPUT: true; the input reads as it did. -/
def fnTakeAnyAgreesWithTakeIfSpec : ChangeSpec := { name := "fnTakeAnyAgreesWithTakeIf", fn := fun _ => fun
  | [d1, d2, d3, d4] => { results := [.lit (.bool true)], args := [d1, d2, d3, d4] }
  | _ => none }
def fnTakeAnyAgreesWithTakeIfRow : OpenClaim := { program := "qxb6001179a", sum := "e180d774c855da2f845b4833d9f7bb081e3cdc14139d1bc05c0aa12b57ba59c9", func := "example.com/tranchebook/tranchebook/zzlaws_pkg_condition_b1.FnTakeAnyAgreesWithTakeIf", spec := "fnTakeAnyAgreesWithTakeIf", apart := false }
def FnTakeAnyAgreesWithTakeIfSaid : Prop := fnTakeAnyAgreesWithTakeIfRow.holds Try.pinned (OpenSpec.ofChange fnTakeAnyAgreesWithTakeIfSpec)

/-- ITS FALSE NEIGHBOUR: 'it returns false'. Refute it at one input. -/
def fnTakeAnyAgreesWithTakeIfWrong : ChangeSpec := { name := "fnTakeAnyAgreesWithTakeIf", fn := fun _ => fun
  | [d1, d2, d3, d4] => { results := [.lit (.bool false)], args := [d1, d2, d3, d4] }
  | _ => none }
def FnTakeAnyAgreesWithTakeIfWrongFalsely : Prop := fnTakeAnyAgreesWithTakeIfRow.holds Try.pinned (OpenSpec.ofChange fnTakeAnyAgreesWithTakeIfWrong)

/-- 'zzlaws_pkg_condition_b1.FnTakeAnyOrderFree': WHATEVER THE INPUT: true; the input reads as it did. -/
def fnTakeAnyOrderFreeSpec : ChangeSpec := { name := "fnTakeAnyOrderFree", fn := fun _ => fun
  | [d1, d2, d3, d4] => { results := [.lit (.bool true)], args := [d1, d2, d3, d4] }
  | _ => none }
def fnTakeAnyOrderFreeRow : OpenClaim := { program := "qxb6001179a", sum := "e180d774c855da2f845b4833d9f7bb081e3cdc14139d1bc05c0aa12b57ba59c9", func := "example.com/tranchebook/tranchebook/zzlaws_pkg_condition_b1.FnTakeAnyOrderFree", spec := "fnTakeAnyOrderFree", apart := false }
def FnTakeAnyOrderFreeSaid : Prop := fnTakeAnyOrderFreeRow.holds Try.pinned (OpenSpec.ofChange fnTakeAnyOrderFreeSpec)

/-- ITS FALSE NEIGHBOUR: 'it returns false'. Refute it at one input. -/
def fnTakeAnyOrderFreeWrong : ChangeSpec := { name := "fnTakeAnyOrderFree", fn := fun _ => fun
  | [d1, d2, d3, d4] => { results := [.lit (.bool false)], args := [d1, d2, d3, d4] }
  | _ => none }
def FnTakeAnyOrderFreeWrongFalsely : Prop := fnTakeAnyOrderFreeRow.holds Try.pinned (OpenSpec.ofChange fnTakeAnyOrderFreeWrong)

end Rows
end Go.Proofs.Qxb6001179a
