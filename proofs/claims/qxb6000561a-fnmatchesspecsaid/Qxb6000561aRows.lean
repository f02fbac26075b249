/-
  No cell of these rows narrows 'for every input' (looked for: loops, veiled, ifaces, maps, wideKeys, modest, calm, conditions, laid).
  DERIVED. THE GIVEN ROWS OF THIS SEAT. 5 by the template 'for every input the law returns true; each argument reads behind the call as it read before'; 0 by the template 'total and deterministic' (their statements: Qxb6000561aTotals.lean).
  GIVEN WITH THE SEED: the statements are not yours to turn. If you find one false, say at which input.
  Laid BY PROGRAM, IN A SANDBOX (cutbox-rows.mjs): the forced cells as the released guide's own fill.sh prints them over the translation f4ce9d8c8f4847a0… (all of the seat's roots in one cut). By AI agents, Wed Nov 11 2026. No macro, syntax, notation, axiom, sorry.
-/
import Derived.Test.Qxb6000561aChecked
import GoSem.Claim
import GoSem.ClaimJoined
import GoSem.ClaimMapViews
import Derived.JoinedTies
import Derived.KernelRfl
namespace Go.Proofs.Qxb6000561a
/- THE CELL 'sum', in the pinned program and in every row, IS THE sha256 OF THE DUMP (.gsa) THAT Qxb6000561aProg.lean LOADS. Nothing in Lean hashes anything: it is a label: what it is worth is what the hold of that sum in a sandbox is worth. -/
noncomputable def Try.pinned : Pinned := { name := "qxb6000561a", sum := "f4ce9d8c8f4847a032892a1273493fac0024e8f06d3c7839f6a07c1e965aa509", checked := Try.checked }
namespace Rows
def none {H : Type} : Left H := { results := [], args := [] }

/-- 'zzlaws_internal_store_b1.FnDoneIffNothingPending': WHATEVER THE INPUT: true; the input reads as it did. -/
def fnDoneIffNothingPendingSpec : ChangeSpec := { name := "fnDoneIffNothingPending", fn := fun _ => fun
  | [d1, d2, d3] => { results := [.lit (.bool true)], args := [d1, d2, d3] }
  | _ => none }
def fnDoneIffNothingPendingRow : OpenClaim := { program := "qxb6000561a", sum := "f4ce9d8c8f4847a032892a1273493fac0024e8f06d3c7839f6a07c1e965aa509", func := "example.com/watchline/watchline/zzlaws_internal_store_b1.FnDoneIffNothingPending", spec := "fnDoneIffNothingPending", apart := false }
def FnDoneIffNothingPendingSaid : Prop := fnDoneIffNothingPendingRow.holds Try.pinned (OpenSpec.ofChange fnDoneIffNothingPendingSpec)

/-- ITS FALSE NEIGHBOUR: 'it returns false'. Refute it at one input. -/
def fnDoneIffNothingPendingWrong : ChangeSpec := { name := "fnDoneIffNothingPending", fn := fun _ => fun
  | [d1, d2, d3] => { results := [.lit (.bool false)], args := [d1, d2, d3] }
  | _ => none }
def FnDoneIffNothingPendingWrongFalsely : Prop := fnDoneIffNothingPendingRow.holds Try.pinned (OpenSpec.ofChange fnDoneIffNothingPendingWrong)

/-- 'zzlaws_internal_store_b1.FnDoneIgnoresRevisionAndZeros': WHATEVER THE INPUT: true; the input reads as it did. -/
def fnDoneIgnoresRevisionAndZerosSpec : ChangeSpec := { name := "fnDoneIgnoresRevisionAndZeros", fn := fun _ => fun
  | [d1, d2, d3, d4, d5, d6] => { results := [.lit (.bool true)], args := [d1, d2, d3, d4, d5, d6] }
  | _ => none }
def fnDoneIgnoresRevisionAndZerosRow : OpenClaim := { program := "qxb6000561a", sum := "f4ce9d8c8f4847a032892a1273493fac0024e8f06d3c7839f6a07c1e965aa509", func := "example.com/watchline/watchline/zzlaws_internal_store_b1.FnDoneIgnoresRevisionAndZeros", spec := "fnDoneIgnoresRevisionAndZeros", apart := false }
def FnDoneIgnoresRevisionAndZerosSaid : Prop := fnDoneIgnoresRevisionAndZerosRow.holds Try.pinned (OpenSpec.ofChange fnDoneIgnoresRevisionAndZerosSpec)

/-- ITS FALSE NEIGHBOUR: 'it returns false'. Refute it at one input. -/
def fnDoneIgnoresRevisionAndZerosWrong : ChangeSpec := { name := "fnDoneIgnoresRevisionAndZeros", fn := fun _ => fun
  | [d1, d2, d3, d4, d5, d6] => { results := [.lit (.bool false)], args := [d1, d2, d3, d4, d5, d6] }
  | _ => none }
def FnDoneIgnoresRevisionAndZerosWrongFalsely : Prop := fnDoneIgnoresRevisionAndZerosRow.holds Try.pinned (OpenSpec.ofChange fnDoneIgnoresRevisionAndZerosWrong)

/-- 'zzlaws_internal_store_b1.FnMatchesSpec': WHATEVER THE INPUT: true; the input reads as it did. -/
def fnMatchesSpecSpec : ChangeSpec := { name := "fnMatchesSpec", fn := fun _ => fun
  | [d1, d2, d3] => { results := [.lit (.bool true)], args := [d1, d2, d3] }
  | _ => none }
def fnMatchesSpecRow : OpenClaim := { program := "qxb6000561a", sum := "f4ce9d8c8f4847a032892a1273493fac0024e8f06d3c7839f6a07c1e965aa509", func := "example.com/watchline/watchline/zzlaws_internal_store_b1.FnMatchesSpec", spec := "fnMatchesSpec", apart := false }
def FnMatchesSpecSaid : Prop := fnMatchesSpecRow.holds Try.pinned (OpenSpec.ofChange fnMatchesSpecSpec)

/-- ITS FALSE NEIGHBOUR: 'it returns false'. Refute it at one input. -/
def fnMatchesSpecWrong : ChangeSpec := { name := "fnMatchesSpec", fn := fun _ => fun
  | [d1, d2, d3] => { results := [.lit (.bool false)], args := [d1, d2, d3] }
  | _ => none }
def FnMatchesSpecWrongFalsely : Prop := fnMatchesSpecRow.holds Try.pinned (OpenSpec.ofChange fnMatchesSpecWrong)

/-- 'zzlaws_internal_store_b1.FnMatchesWidening': WHATEVER THE INPUT: true; the input reads as it did. -/
def fnMatchesWideningSpec : ChangeSpec := { name := "fnMatchesWidening", fn := fun _ => fun
  | [d1, d2, d3, d4, d5] => { results := [.lit (.bool true)], args := [d1, d2, d3, d4, d5] }
  | _ => none }
def fnMatchesWideningRow : OpenClaim := { program := "qxb6000561a", sum := "f4ce9d8c8f4847a032892a1273493fac0024e8f06d3c7839f6a07c1e965aa509", func := "example.com/watchline/watchline/zzlaws_internal_store_b1.FnMatchesWidening", spec := "fnMatchesWidening", apart := false }
def FnMatchesWideningSaid : Prop := fnMatchesWideningRow.holds Try.pinned (OpenSpec.ofChange fnMatchesWideningSpec)

/-- ITS FALSE NEIGHBOUR: 'it returns false'. Refute it at one input. -/
def fnMatchesWideningWrong : ChangeSpec := { name := "fnMatchesWidening", fn := fun _ => fun
  | [d1, d2, d3, d4, d5] => { results := [.lit (.bool false)], args := [d1, d2, d3, d4, d5] }
  | _ => none }
def FnMatchesWideningWrongFalsely : Prop := fnMatchesWideningRow.holds Try.pinned (OpenSpec.ofChange fnMatchesWideningWrong)

/-- 'zzlaws_internal_store_b1.FnMatchesSelectsItsOwn': WHATEVER THE INPUT: true; the input reads as it did. -/
def fnMatchesSelectsItsOwnSpec : ChangeSpec := { name := "fnMatchesSelectsItsOwn", fn := fun _ => fun
  | [d1, d2, d3, d4, d5] => { results := [.lit (.bool true)], args := [d1, d2, d3, d4, d5] }
  | _ => none }
def fnMatchesSelectsItsOwnRow : OpenClaim := { program := "qxb6000561a", sum := "f4ce9d8c8f4847a032892a1273493fac0024e8f06d3c7839f6a07c1e965aa509", func := "example.com/watchline/watchline/zzlaws_internal_store_b1.FnMatchesSelectsItsOwn", spec := "fnMatchesSelectsItsOwn", apart := false }
def FnMatchesSelectsItsOwnSaid : Prop := fnMatchesSelectsItsOwnRow.holds Try.pinned (OpenSpec.ofChange fnMatchesSelectsItsOwnSpec)

/-- ITS FALSE NEIGHBOUR: 'it returns false'. Refute it at one input. -/
def fnMatchesSelectsItsOwnWrong : ChangeSpec := { name := "fnMatchesSelectsItsOwn", fn := fun _ => fun
  | [d1, d2, d3, d4, d5] => { results := [.lit (.bool false)], args := [d1, d2, d3, d4, d5] }
  | _ => none }
def FnMatchesSelectsItsOwnWrongFalsely : Prop := fnMatchesSelectsItsOwnRow.holds Try.pinned (OpenSpec.ofChange fnMatchesSelectsItsOwnWrong)

end Rows
end Go.Proofs.Qxb6000561a
