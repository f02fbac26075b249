/-
  No cell of these rows narrows 'for every input' (looked for: loops, veiled, ifaces, maps, wideKeys, modest, calm, conditions, laid).
  DERIVED. THE GIVEN ROWS OF THIS SEAT. 2 by the template 'for every input the law returns true; each argument reads behind the call as it read before'; 0 by the template 'total and deterministic' (their statements: Qxb6002388aTotals.lean).
  GIVEN WITH THE SEED: the statements are not yours to turn. If you find one false, say at which input.
  Laid BY PROGRAM, IN A SANDBOX (cutbox-rows.mjs): the forced cells as the released guide's own fill.sh prints them over the translation fe0728bac86d3d2d… (all of the seat's roots in one cut). By AI agents, Wed Nov 11 2026. No macro, syntax, notation, axiom, sorry.
-/
import Derived.Test.Qxb6002388aChecked
import GoSem.Claim
import GoSem.ClaimJoined
import GoSem.ClaimMapViews
import Derived.JoinedTies
import Derived.KernelRfl
namespace Go.Proofs.Qxb6002388a
/- THE CELL 'sum', in the pinned program and in every row, IS THE sha256 OF THE DUMP (.gsa) THAT Qxb6002388aProg.lean LOADS. Nothing in Lean hashes anything: it is a label: what it is worth is what the hold of that sum in a sandbox is worth. -/
noncomputable def Try.pinned : Pinned := { name := "qxb6002388a", sum := "fe0728bac86d3d2d17db6c1e8d2834e762e80f96b8929f5ab3d902f7ecd5fc26", checked := Try.checked }
namespace Rows
def none {H : Type} : Left H := { results := [], args := [] }

/-- 'zzlaws_ledger_g1.FnLedgerBalancesSortedAndComplete': WHATEVER THE INPUT: true; the input reads as it did. -/
def fnLedgerBalancesSortedAndCompleteSpec : ChangeSpec := { name := "fnLedgerBalancesSortedAndComplete", fn := fun _ => fun
  | [d1, d2] => { results := [.lit (.bool true)], args := [d1, d2] }
  | _ => none }
def fnLedgerBalancesSortedAndCompleteRow : OpenClaim := { program := "qxb6002388a", sum := "fe0728bac86d3d2d17db6c1e8d2834e762e80f96b8929f5ab3d902f7ecd5fc26", func := "example.com/resolvent/resolvent/zzlaws_ledger_g1.FnLedgerBalancesSortedAndComplete", spec := "fnLedgerBalancesSortedAndComplete", unfollowed := true, recurses := true, apart := false }
def FnLedgerBalancesSortedAndCompleteSaid : Prop := fnLedgerBalancesSortedAndCompleteRow.holds Try.pinned (OpenSpec.ofChange fnLedgerBalancesSortedAndCompleteSpec)

/-- ITS FALSE NEIGHBOUR: 'it returns false'. Refute it at one input. -/
def fnLedgerBalancesSortedAndCompleteWrong : ChangeSpec := { name := "fnLedgerBalancesSortedAndComplete", fn := fun _ => fun
  | [d1, d2] => { results := [.lit (.bool false)], args := [d1, d2] }
  | _ => none }
def FnLedgerBalancesSortedAndCompleteWrongFalsely : Prop := fnLedgerBalancesSortedAndCompleteRow.holds Try.pinned (OpenSpec.ofChange fnLedgerBalancesSortedAndCompleteWrong)

/-- 'zzlaws_ledger_g1.FnBookBalancesOrderAndAgreement': WHATEVER THE INPUT: true; the input reads as it did. -/
def fnBookBalancesOrderAndAgreementSpec : ChangeSpec := { name := "fnBookBalancesOrderAndAgreement", fn := fun _ => fun
  | [d1, d2, d3] => { results := [.lit (.bool true)], args := [d1, d2, d3] }
  | _ => none }
def fnBookBalancesOrderAndAgreementRow : OpenClaim := { program := "qxb6002388a", sum := "fe0728bac86d3d2d17db6c1e8d2834e762e80f96b8929f5ab3d902f7ecd5fc26", func := "example.com/resolvent/resolvent/zzlaws_ledger_g1.FnBookBalancesOrderAndAgreement", spec := "fnBookBalancesOrderAndAgreement", inPlace := ["internal/bytealg.abigen_runtime_cmpstring"], unfollowed := true, recurses := true, apart := false }
def FnBookBalancesOrderAndAgreementSaid : Prop := fnBookBalancesOrderAndAgreementRow.holds Try.pinned (OpenSpec.ofChange fnBookBalancesOrderAndAgreementSpec)

/-- ITS FALSE NEIGHBOUR: 'it returns false'. Refute it at one input. -/
def fnBookBalancesOrderAndAgreementWrong : ChangeSpec := { name := "fnBookBalancesOrderAndAgreement", fn := fun _ => fun
  | [d1, d2, d3] => { results := [.lit (.bool false)], args := [d1, d2, d3] }
  | _ => none }
def FnBookBalancesOrderAndAgreementWrongFalsely : Prop := fnBookBalancesOrderAndAgreementRow.holds Try.pinned (OpenSpec.ofChange fnBookBalancesOrderAndAgreementWrong)

end Rows
end Go.Proofs.Qxb6002388a
