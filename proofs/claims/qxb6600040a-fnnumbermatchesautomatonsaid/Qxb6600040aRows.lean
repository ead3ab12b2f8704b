/-
  No cell of these rows narrows 'for every input' (looked for: loops, veiled, ifaces, maps, wideKeys, modest, calm, conditions, laid).
  DERIVED. THE GIVEN ROWS OF THIS SEAT. 4 by the template 'for every input the law returns true; each argument reads behind the call as it read before'; 0 by the template 'total and deterministic' (their statements: Qxb6600040aTotals.lean).
  GIVEN WITH THE SEED: the statements are not yours to turn. If you find one false, say at which input.
  Laid BY PROGRAM, IN A SANDBOX (cutbox-rows.mjs): the forced cells as the released guide's own fill.sh prints them over the translation 3cd4aedc96da6867… (all of the seat's roots in one cut). By AI agents, Wed Nov 11 2026. No macro, syntax, notation, axiom, sorry.
-/
import Derived.Test.Qxb6600040aChecked
import GoSem.Claim
import GoSem.ClaimJoined
import GoSem.ClaimMapViews
import Derived.JoinedTies
import Derived.KernelRfl
namespace Go.Proofs.Qxb6600040a
/- THE CELL 'sum', in the pinned program and in every row, IS THE sha256 OF THE DUMP (.gsa) THAT Qxb6600040aProg.lean LOADS. Nothing in Lean hashes anything: it is a label: what it is worth is what the hold of that sum in a sandbox is worth. -/
noncomputable def Try.pinned : Pinned := { name := "qxb6600040a", sum := "3cd4aedc96da686714f6f712b20fcce11639431bfca2fd7d8a8ec1ebb1673ff1", checked := Try.checked }
namespace Rows
def none {H : Type} : Left H := { results := [], args := [] }

/-- 'zzlaws_pkg_api_b1.FnHex4InvertsFourDigitEncoding': WHATEVER THE INPUT: true; the input reads as it did. -/
def fnHex4InvertsFourDigitEncodingSpec : ChangeSpec := { name := "fnHex4InvertsFourDigitEncoding", fn := fun _ => fun
  | [d1, d2, d3] => { results := [.lit (.bool true)], args := [d1, d2, d3] }
  | _ => none }
def fnHex4InvertsFourDigitEncodingRow : OpenClaim := { program := "qxb6600040a", sum := "3cd4aedc96da686714f6f712b20fcce11639431bfca2fd7d8a8ec1ebb1673ff1", func := "example.com/leasehold/leasehold/zzlaws_pkg_api_b1.FnHex4InvertsFourDigitEncoding", spec := "fnHex4InvertsFourDigitEncoding", apart := false }
def FnHex4InvertsFourDigitEncodingSaid : Prop := fnHex4InvertsFourDigitEncodingRow.holds Try.pinned (OpenSpec.ofChange fnHex4InvertsFourDigitEncodingSpec)

/-- ITS FALSE NEIGHBOUR: 'it returns false'. Refute it at one input. -/
def fnHex4InvertsFourDigitEncodingWrong : ChangeSpec := { name := "fnHex4InvertsFourDigitEncoding", fn := fun _ => fun
  | [d1, d2, d3] => { results := [.lit (.bool false)], args := [d1, d2, d3] }
  | _ => none }
def FnHex4InvertsFourDigitEncodingWrongFalsely : Prop := fnHex4InvertsFourDigitEncodingRow.holds Try.pinned (OpenSpec.ofChange fnHex4InvertsFourDigitEncodingWrong)

/-- 'zzlaws_pkg_api_b1.FnHex4IgnoresCaseAndWhatFollows': WHATEVER THE INPUT: true; the input reads as it did. -/
def fnHex4IgnoresCaseAndWhatFollowsSpec : ChangeSpec := { name := "fnHex4IgnoresCaseAndWhatFollows", fn := fun _ => fun
  | [d1, d2] => { results := [.lit (.bool true)], args := [d1, d2] }
  | _ => none }
def fnHex4IgnoresCaseAndWhatFollowsRow : OpenClaim := { program := "qxb6600040a", sum := "3cd4aedc96da686714f6f712b20fcce11639431bfca2fd7d8a8ec1ebb1673ff1", func := "example.com/leasehold/leasehold/zzlaws_pkg_api_b1.FnHex4IgnoresCaseAndWhatFollows", spec := "fnHex4IgnoresCaseAndWhatFollows", apart := false }
def FnHex4IgnoresCaseAndWhatFollowsSaid : Prop := fnHex4IgnoresCaseAndWhatFollowsRow.holds Try.pinned (OpenSpec.ofChange fnHex4IgnoresCaseAndWhatFollowsSpec)

/-- ITS FALSE NEIGHBOUR: 'it returns false'. Refute it at one input. -/
def fnHex4IgnoresCaseAndWhatFollowsWrong : ChangeSpec := { name := "fnHex4IgnoresCaseAndWhatFollows", fn := fun _ => fun
  | [d1, d2] => { results := [.lit (.bool false)], args := [d1, d2] }
  | _ => none }
def FnHex4IgnoresCaseAndWhatFollowsWrongFalsely : Prop := fnHex4IgnoresCaseAndWhatFollowsRow.holds Try.pinned (OpenSpec.ofChange fnHex4IgnoresCaseAndWhatFollowsWrong)

/-- 'zzlaws_pkg_api_b1.FnNumberMatchesAutomaton': WHATEVER THE INPUT: true; the input reads as it did. -/
def fnNumberMatchesAutomatonSpec : ChangeSpec := { name := "fnNumberMatchesAutomaton", fn := fun _ => fun
  | [d1, d2] => { results := [.lit (.bool true)], args := [d1, d2] }
  | _ => none }
def fnNumberMatchesAutomatonRow : OpenClaim := { program := "qxb6600040a", sum := "3cd4aedc96da686714f6f712b20fcce11639431bfca2fd7d8a8ec1ebb1673ff1", func := "example.com/leasehold/leasehold/zzlaws_pkg_api_b1.FnNumberMatchesAutomaton", spec := "fnNumberMatchesAutomaton", apart := false }
def FnNumberMatchesAutomatonSaid : Prop := fnNumberMatchesAutomatonRow.holds Try.pinned (OpenSpec.ofChange fnNumberMatchesAutomatonSpec)

/-- ITS FALSE NEIGHBOUR: 'it returns false'. Refute it at one input. -/
def fnNumberMatchesAutomatonWrong : ChangeSpec := { name := "fnNumberMatchesAutomaton", fn := fun _ => fun
  | [d1, d2] => { results := [.lit (.bool false)], args := [d1, d2] }
  | _ => none }
def FnNumberMatchesAutomatonWrongFalsely : Prop := fnNumberMatchesAutomatonRow.holds Try.pinned (OpenSpec.ofChange fnNumberMatchesAutomatonWrong)

/-- 'zzlaws_pkg_api_b1.FnNumberConsumedTextStandsAlone': WHATEVER THE INPUT: true; the input reads as it did. -/
def fnNumberConsumedTextStandsAloneSpec : ChangeSpec := { name := "fnNumberConsumedTextStandsAlone", fn := fun _ => fun
  | [d1, d2, d3, d4, d5] => { results := [.lit (.bool true)], args := [d1, d2, d3, d4, d5] }
  | _ => none }
def fnNumberConsumedTextStandsAloneRow : OpenClaim := { program := "qxb6600040a", sum := "3cd4aedc96da686714f6f712b20fcce11639431bfca2fd7d8a8ec1ebb1673ff1", func := "example.com/leasehold/leasehold/zzlaws_pkg_api_b1.FnNumberConsumedTextStandsAlone", spec := "fnNumberConsumedTextStandsAlone", apart := false }
def FnNumberConsumedTextStandsAloneSaid : Prop := fnNumberConsumedTextStandsAloneRow.holds Try.pinned (OpenSpec.ofChange fnNumberConsumedTextStandsAloneSpec)

/-- ITS FALSE NEIGHBOUR: 'it returns false'. Refute it at one input. -/
def fnNumberConsumedTextStandsAloneWrong : ChangeSpec := { name := "fnNumberConsumedTextStandsAlone", fn := fun _ => fun
  | [d1, d2, d3, d4, d5] => { results := [.lit (.bool false)], args := [d1, d2, d3, d4, d5] }
  | _ => none }
def FnNumberConsumedTextStandsAloneWrongFalsely : Prop := fnNumberConsumedTextStandsAloneRow.holds Try.pinned (OpenSpec.ofChange fnNumberConsumedTextStandsAloneWrong)

end Rows
end Go.Proofs.Qxb6600040a
