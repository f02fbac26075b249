/-
  No cell of these rows narrows 'for every input' (looked for: loops, veiled, ifaces, maps, wideKeys, modest, calm, conditions, laid).
  DERIVED. THE GIVEN ROWS OF THIS SEAT. 7 by the template 'for every input the law returns true; each argument reads behind the call as it read before'; 0 by the template 'total and deterministic' (their statements: Qxb6000069aTotals.lean).
  GIVEN WITH THE SEED: the statements are not yours to turn. If you find one false, say at which input.
  Laid BY PROGRAM, IN A SANDBOX (cutbox-rows.mjs): the forced cells as the released guide's own fill.sh prints them over the translation 915f6536a8c524d5… (all of the seat's roots in one cut). By AI agents, Wed Nov 11 2026. No macro, syntax, notation, axiom, sorry.
-/
import Derived.Test.Qxb6000069aChecked
import GoSem.Claim
import GoSem.ClaimJoined
import GoSem.ClaimMapViews
import Derived.JoinedTies
import Derived.KernelRfl
namespace Go.Proofs.Qxb6000069a
/- THE CELL 'sum', in the pinned program and in every row, IS THE sha256 OF THE DUMP (.gsa) THAT Qxb6000069aProg.lean LOADS. Nothing in Lean hashes anything: it is a label: what it is worth is what the hold of that sum in a sandbox is worth. -/
noncomputable def Try.pinned : Pinned := { name := "qxb6000069a", sum := "915f6536a8c524d5c53c8c3f7d97c1f01c8b987c04ae49e24e3c8efa69608190", checked := Try.checked }
namespace Rows
def none {H : Type} : Left H := { results := [], args := [] }

/-- 'zzlaws_aka_b1.FnSQNFromBytesWeightedSum': WHATEVER THE INPUT: true; the input reads as it did. -/
def fnSQNFromBytesWeightedSumSpec : ChangeSpec := { name := "fnSQNFromBytesWeightedSum", fn := fun _ => fun
  | [d] => { results := [.lit (.bool true)], args := [d] }
  | _ => none }
def fnSQNFromBytesWeightedSumRow : OpenClaim := { program := "qxb6000069a", sum := "915f6536a8c524d5c53c8c3f7d97c1f01c8b987c04ae49e24e3c8efa69608190", func := "example.com/roamkey/roamkey/zzlaws_aka_b1.FnSQNFromBytesWeightedSum", spec := "fnSQNFromBytesWeightedSum", apart := false }
def FnSQNFromBytesWeightedSumSaid : Prop := fnSQNFromBytesWeightedSumRow.holds Try.pinned (OpenSpec.ofChange fnSQNFromBytesWeightedSumSpec)

/-- ITS FALSE NEIGHBOUR: 'it returns false'. Refute it at one input. -/
def fnSQNFromBytesWeightedSumWrong : ChangeSpec := { name := "fnSQNFromBytesWeightedSum", fn := fun _ => fun
  | [d] => { results := [.lit (.bool false)], args := [d] }
  | _ => none }
def FnSQNFromBytesWeightedSumWrongFalsely : Prop := fnSQNFromBytesWeightedSumRow.holds Try.pinned (OpenSpec.ofChange fnSQNFromBytesWeightedSumWrong)

/-- 'zzlaws_aka_b1.FnSQNFromBytesLexOrder': WHATEVER THE INPUT: true; the input reads as it did. -/
def fnSQNFromBytesLexOrderSpec : ChangeSpec := { name := "fnSQNFromBytesLexOrder", fn := fun _ => fun
  | [d1, d2] => { results := [.lit (.bool true)], args := [d1, d2] }
  | _ => none }
def fnSQNFromBytesLexOrderRow : OpenClaim := { program := "qxb6000069a", sum := "915f6536a8c524d5c53c8c3f7d97c1f01c8b987c04ae49e24e3c8efa69608190", func := "example.com/roamkey/roamkey/zzlaws_aka_b1.FnSQNFromBytesLexOrder", spec := "fnSQNFromBytesLexOrder", apart := false }
def FnSQNFromBytesLexOrderSaid : Prop := fnSQNFromBytesLexOrderRow.holds Try.pinned (OpenSpec.ofChange fnSQNFromBytesLexOrderSpec)

/-- ITS FALSE NEIGHBOUR: 'it returns false'. Refute it at one input. -/
def fnSQNFromBytesLexOrderWrong : ChangeSpec := { name := "fnSQNFromBytesLexOrder", fn := fun _ => fun
  | [d1, d2] => { results := [.lit (.bool false)], args := [d1, d2] }
  | _ => none }
def FnSQNFromBytesLexOrderWrongFalsely : Prop := fnSQNFromBytesLexOrderRow.holds Try.pinned (OpenSpec.ofChange fnSQNFromBytesLexOrderWrong)

/-- 'zzlaws_aka_b1.FnSQNFromBytesRoundTrip': WHATEVER THE INPUT: true; the input reads as it did. -/
def fnSQNFromBytesRoundTripSpec : ChangeSpec := { name := "fnSQNFromBytesRoundTrip", fn := fun _ => fun
  | [d] => { results := [.lit (.bool true)], args := [d] }
  | _ => none }
def fnSQNFromBytesRoundTripRow : OpenClaim := { program := "qxb6000069a", sum := "915f6536a8c524d5c53c8c3f7d97c1f01c8b987c04ae49e24e3c8efa69608190", func := "example.com/roamkey/roamkey/zzlaws_aka_b1.FnSQNFromBytesRoundTrip", spec := "fnSQNFromBytesRoundTrip", apart := false }
def FnSQNFromBytesRoundTripSaid : Prop := fnSQNFromBytesRoundTripRow.holds Try.pinned (OpenSpec.ofChange fnSQNFromBytesRoundTripSpec)

/-- ITS FALSE NEIGHBOUR: 'it returns false'. Refute it at one input. -/
def fnSQNFromBytesRoundTripWrong : ChangeSpec := { name := "fnSQNFromBytesRoundTrip", fn := fun _ => fun
  | [d] => { results := [.lit (.bool false)], args := [d] }
  | _ => none }
def FnSQNFromBytesRoundTripWrongFalsely : Prop := fnSQNFromBytesRoundTripRow.holds Try.pinned (OpenSpec.ofChange fnSQNFromBytesRoundTripWrong)

/-- 'zzlaws_aka_b1.FnSQNBytesDigits': WHATEVER THE INPUT: true; the input reads as it did. -/
def fnSQNBytesDigitsSpec : ChangeSpec := { name := "fnSQNBytesDigits", fn := fun _ => fun
  | [d] => { results := [.lit (.bool true)], args := [d] }
  | _ => none }
def fnSQNBytesDigitsRow : OpenClaim := { program := "qxb6000069a", sum := "915f6536a8c524d5c53c8c3f7d97c1f01c8b987c04ae49e24e3c8efa69608190", func := "example.com/roamkey/roamkey/zzlaws_aka_b1.FnSQNBytesDigits", spec := "fnSQNBytesDigits", apart := false }
def FnSQNBytesDigitsSaid : Prop := fnSQNBytesDigitsRow.holds Try.pinned (OpenSpec.ofChange fnSQNBytesDigitsSpec)

/-- ITS FALSE NEIGHBOUR: 'it returns false'. Refute it at one input. -/
def fnSQNBytesDigitsWrong : ChangeSpec := { name := "fnSQNBytesDigits", fn := fun _ => fun
  | [d] => { results := [.lit (.bool false)], args := [d] }
  | _ => none }
def FnSQNBytesDigitsWrongFalsely : Prop := fnSQNBytesDigitsRow.holds Try.pinned (OpenSpec.ofChange fnSQNBytesDigitsWrong)

/-- 'zzlaws_aka_b1.FnSQNBytesRoundTrip': WHATEVER THE INPUT: true; the input reads as it did. -/
def fnSQNBytesRoundTripSpec : ChangeSpec := { name := "fnSQNBytesRoundTrip", fn := fun _ => fun
  | [d] => { results := [.lit (.bool true)], args := [d] }
  | _ => none }
def fnSQNBytesRoundTripRow : OpenClaim := { program := "qxb6000069a", sum := "915f6536a8c524d5c53c8c3f7d97c1f01c8b987c04ae49e24e3c8efa69608190", func := "example.com/roamkey/roamkey/zzlaws_aka_b1.FnSQNBytesRoundTrip", spec := "fnSQNBytesRoundTrip", apart := false }
def FnSQNBytesRoundTripSaid : Prop := fnSQNBytesRoundTripRow.holds Try.pinned (OpenSpec.ofChange fnSQNBytesRoundTripSpec)

/-- ITS FALSE NEIGHBOUR: 'it returns false'. Refute it at one input. -/
def fnSQNBytesRoundTripWrong : ChangeSpec := { name := "fnSQNBytesRoundTrip", fn := fun _ => fun
  | [d] => { results := [.lit (.bool false)], args := [d] }
  | _ => none }
def FnSQNBytesRoundTripWrongFalsely : Prop := fnSQNBytesRoundTripRow.holds Try.pinned (OpenSpec.ofChange fnSQNBytesRoundTripWrong)

/-- 'zzlaws_aka_b1.FnSQNNextAdvances': WHATEVER THE INPUT: true; the input reads as it did. -/
def fnSQNNextAdvancesSpec : ChangeSpec := { name := "fnSQNNextAdvances", fn := fun _ => fun
  | [d1, d2] => { results := [.lit (.bool true)], args := [d1, d2] }
  | _ => none }
def fnSQNNextAdvancesRow : OpenClaim := { program := "qxb6000069a", sum := "915f6536a8c524d5c53c8c3f7d97c1f01c8b987c04ae49e24e3c8efa69608190", func := "example.com/roamkey/roamkey/zzlaws_aka_b1.FnSQNNextAdvances", spec := "fnSQNNextAdvances", apart := false }
def FnSQNNextAdvancesSaid : Prop := fnSQNNextAdvancesRow.holds Try.pinned (OpenSpec.ofChange fnSQNNextAdvancesSpec)

/-- ITS FALSE NEIGHBOUR: 'it returns false'. Refute it at one input. -/
def fnSQNNextAdvancesWrong : ChangeSpec := { name := "fnSQNNextAdvances", fn := fun _ => fun
  | [d1, d2] => { results := [.lit (.bool false)], args := [d1, d2] }
  | _ => none }
def FnSQNNextAdvancesWrongFalsely : Prop := fnSQNNextAdvancesRow.holds Try.pinned (OpenSpec.ofChange fnSQNNextAdvancesWrong)

/-- 'zzlaws_aka_b1.FnSQNNextMonotone': WHATEVER THE INPUT: true; the input reads as it did. -/
def fnSQNNextMonotoneSpec : ChangeSpec := { name := "fnSQNNextMonotone", fn := fun _ => fun
  | [d1, d2, d3] => { results := [.lit (.bool true)], args := [d1, d2, d3] }
  | _ => none }
def fnSQNNextMonotoneRow : OpenClaim := { program := "qxb6000069a", sum := "915f6536a8c524d5c53c8c3f7d97c1f01c8b987c04ae49e24e3c8efa69608190", func := "example.com/roamkey/roamkey/zzlaws_aka_b1.FnSQNNextMonotone", spec := "fnSQNNextMonotone", apart := false }
def FnSQNNextMonotoneSaid : Prop := fnSQNNextMonotoneRow.holds Try.pinned (OpenSpec.ofChange fnSQNNextMonotoneSpec)

/-- ITS FALSE NEIGHBOUR: 'it returns false'. Refute it at one input. -/
def fnSQNNextMonotoneWrong : ChangeSpec := { name := "fnSQNNextMonotone", fn := fun _ => fun
  | [d1, d2, d3] => { results := [.lit (.bool false)], args := [d1, d2, d3] }
  | _ => none }
def FnSQNNextMonotoneWrongFalsely : Prop := fnSQNNextMonotoneRow.holds Try.pinned (OpenSpec.ofChange fnSQNNextMonotoneWrong)

end Rows
end Go.Proofs.Qxb6000069a
