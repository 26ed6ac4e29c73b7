/-
  No cell of these rows narrows 'for every input' (looked for: loops, veiled, ifaces, maps, wideKeys, modest, calm, conditions, laid).
  DERIVED. THE GIVEN ROWS OF THIS SEAT. 2 by the template 'for every input the law returns true; each argument reads behind the call as it read before'; 0 by the template 'total and deterministic' (their statements: Qxb6627983aTotals.lean).
  GIVEN WITH THE SEED: the statements are not yours to turn. If you find one false, say at which input.
  Laid BY PROGRAM, IN A SANDBOX (cutbox-rows.mjs): the forced cells as the released guide's own fill.sh prints them over the translation 01d86274773c13e5… (all of the seat's roots in one cut). By AI agents, Wed Nov 11 2026. No macro, syntax, notation, axiom, sorry.
-/
import Derived.Test.Qxb6627983aChecked
import GoSem.Claim
import GoSem.ClaimJoined
import GoSem.ClaimMapViews
import Derived.JoinedTies
import Derived.KernelRfl
namespace Go.Proofs.Qxb6627983a
/- THE CELL 'sum', in the pinned program and in every row, IS THE sha256 OF THE DUMP (.gsa) THAT Qxb6627983aProg.lean LOADS. Nothing in Lean hashes anything: it is a label: what it is worth is what the hold of that sum in a sandbox is worth. -/
noncomputable def Try.pinned : Pinned := { name := "qxb6627983a", sum := "01d86274773c13e5e8ac427f5c87765b6e75aa5fe9c01217def4756c07d82794", checked := Try.checked }
namespace Rows
def none {H : Type} : Left H := { results := [], args := [] }

/-- 'zzlaws_internal_vesting_b1.FnInstallmentsCutAgrees': WHATEVER THE INPUT: true; the input reads as it did. -/
def fnInstallmentsCutAgreesSpec : ChangeSpec := { name := "fnInstallmentsCutAgrees", fn := fun _ => fun
  | [d1, d2, d3] => { results := [.lit (.bool true)], args := [d1, d2, d3] }
  | _ => none }
def fnInstallmentsCutAgreesRow : OpenClaim := { program := "qxb6627983a", sum := "01d86274773c13e5e8ac427f5c87765b6e75aa5fe9c01217def4756c07d82794", func := "example.com/vestledger/vestledger/zzlaws_internal_vesting_b1.FnInstallmentsCutAgrees", spec := "fnInstallmentsCutAgrees", apart := false }
def FnInstallmentsCutAgreesSaid : Prop := fnInstallmentsCutAgreesRow.holds Try.pinned (OpenSpec.ofChange fnInstallmentsCutAgreesSpec)

/-- ITS FALSE NEIGHBOUR: 'it returns false'. Refute it at one input. -/
def fnInstallmentsCutAgreesWrong : ChangeSpec := { name := "fnInstallmentsCutAgrees", fn := fun _ => fun
  | [d1, d2, d3] => { results := [.lit (.bool false)], args := [d1, d2, d3] }
  | _ => none }
def FnInstallmentsCutAgreesWrongFalsely : Prop := fnInstallmentsCutAgreesRow.holds Try.pinned (OpenSpec.ofChange fnInstallmentsCutAgreesWrong)

/-- 'zzlaws_internal_vesting_b1.FnInstallmentsShiftMovesFirstOnly': WHATEVER THE INPUT: true; the input reads as it did. -/
def fnInstallmentsShiftMovesFirstOnlySpec : ChangeSpec := { name := "fnInstallmentsShiftMovesFirstOnly", fn := fun _ => fun
  | [d1, d2, d3] => { results := [.lit (.bool true)], args := [d1, d2, d3] }
  | _ => none }
def fnInstallmentsShiftMovesFirstOnlyRow : OpenClaim := { program := "qxb6627983a", sum := "01d86274773c13e5e8ac427f5c87765b6e75aa5fe9c01217def4756c07d82794", func := "example.com/vestledger/vestledger/zzlaws_internal_vesting_b1.FnInstallmentsShiftMovesFirstOnly", spec := "fnInstallmentsShiftMovesFirstOnly", apart := false }
def FnInstallmentsShiftMovesFirstOnlySaid : Prop := fnInstallmentsShiftMovesFirstOnlyRow.holds Try.pinned (OpenSpec.ofChange fnInstallmentsShiftMovesFirstOnlySpec)

/-- ITS FALSE NEIGHBOUR: 'it returns false'. Refute it at one input. -/
def fnInstallmentsShiftMovesFirstOnlyWrong : ChangeSpec := { name := "fnInstallmentsShiftMovesFirstOnly", fn := fun _ => fun
  | [d1, d2, d3] => { results := [.lit (.bool false)], args := [d1, d2, d3] }
  | _ => none }
def FnInstallmentsShiftMovesFirstOnlyWrongFalsely : Prop := fnInstallmentsShiftMovesFirstOnlyRow.holds Try.pinned (OpenSpec.ofChange fnInstallmentsShiftMovesFirstOnlyWrong)

end Rows
end Go.Proofs.Qxb6627983a
