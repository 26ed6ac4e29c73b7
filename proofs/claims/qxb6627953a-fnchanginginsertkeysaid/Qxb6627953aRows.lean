/-
  No cell of these rows narrows 'for every input' (looked for: loops, veiled, ifaces, maps, wideKeys, modest, calm, conditions, laid).
  DERIVED. THE GIVEN ROWS OF THIS SEAT. 2 by the template 'for every input the law returns true; each argument reads behind the call as it read before'; 0 by the template 'total and deterministic' (their statements: Qxb6627953aTotals.lean).
  GIVEN WITH THE SEED: the statements are not yours to turn. If you find one false, say at which input.
  Laid BY PROGRAM, IN A SANDBOX (cutbox-rows.mjs): the forced cells as the released guide's own fill.sh prints them over the translation a17e3b1f7ee535c7… (all of the seat's roots in one cut). By AI agents, Wed Nov 11 2026. No macro, syntax, notation, axiom, sorry.
-/
import Derived.Test.Qxb6627953aChecked
import GoSem.Claim
import GoSem.ClaimJoined
import GoSem.ClaimMapViews
import Derived.JoinedTies
import Derived.KernelRfl
namespace Go.Proofs.Qxb6627953a
/- THE CELL 'sum', in the pinned program and in every row, IS THE sha256 OF THE DUMP (.gsa) THAT Qxb6627953aProg.lean LOADS. Nothing in Lean hashes anything: it is a label: what it is worth is what the hold of that sum in a sandbox is worth. -/
noncomputable def Try.pinned : Pinned := { name := "qxb6627953a", sum := "a17e3b1f7ee535c78264a9622add057fa2e4a32607481ef50abb0ffc6f86b4ee", checked := Try.checked }
namespace Rows
def none {H : Type} : Left H := { results := [], args := [] }

/-- 'zzlaws_config_b1.FnChangingSplitsIntoFenceAndKeys': WHATEVER THE INPUT: true; the input reads as it did. -/
def fnChangingSplitsIntoFenceAndKeysSpec : ChangeSpec := { name := "fnChangingSplitsIntoFenceAndKeys", fn := fun _ => fun
  | [d] => { results := [.lit (.bool true)], args := [d] }
  | _ => none }
def fnChangingSplitsIntoFenceAndKeysRow : OpenClaim := { program := "qxb6627953a", sum := "a17e3b1f7ee535c78264a9622add057fa2e4a32607481ef50abb0ffc6f86b4ee", func := "example.com/quorate/quorate/zzlaws_config_b1.FnChangingSplitsIntoFenceAndKeys", spec := "fnChangingSplitsIntoFenceAndKeys", apart := false }
def FnChangingSplitsIntoFenceAndKeysSaid : Prop := fnChangingSplitsIntoFenceAndKeysRow.holds Try.pinned (OpenSpec.ofChange fnChangingSplitsIntoFenceAndKeysSpec)

/-- ITS FALSE NEIGHBOUR: 'it returns false'. Refute it at one input. -/
def fnChangingSplitsIntoFenceAndKeysWrong : ChangeSpec := { name := "fnChangingSplitsIntoFenceAndKeys", fn := fun _ => fun
  | [d] => { results := [.lit (.bool false)], args := [d] }
  | _ => none }
def FnChangingSplitsIntoFenceAndKeysWrongFalsely : Prop := fnChangingSplitsIntoFenceAndKeysRow.holds Try.pinned (OpenSpec.ofChange fnChangingSplitsIntoFenceAndKeysWrong)

/-- 'zzlaws_config_b1.FnChangingInsertKey': WHATEVER THE INPUT: true; the input reads as it did. -/
def fnChangingInsertKeySpec : ChangeSpec := { name := "fnChangingInsertKey", fn := fun _ => fun
  | [d1, d2, d3] => { results := [.lit (.bool true)], args := [d1, d2, d3] }
  | _ => none }
def fnChangingInsertKeyRow : OpenClaim := { program := "qxb6627953a", sum := "a17e3b1f7ee535c78264a9622add057fa2e4a32607481ef50abb0ffc6f86b4ee", func := "example.com/quorate/quorate/zzlaws_config_b1.FnChangingInsertKey", spec := "fnChangingInsertKey", apart := false }
def FnChangingInsertKeySaid : Prop := fnChangingInsertKeyRow.holds Try.pinned (OpenSpec.ofChange fnChangingInsertKeySpec)

/-- ITS FALSE NEIGHBOUR: 'it returns false'. Refute it at one input. -/
def fnChangingInsertKeyWrong : ChangeSpec := { name := "fnChangingInsertKey", fn := fun _ => fun
  | [d1, d2, d3] => { results := [.lit (.bool false)], args := [d1, d2, d3] }
  | _ => none }
def FnChangingInsertKeyWrongFalsely : Prop := fnChangingInsertKeyRow.holds Try.pinned (OpenSpec.ofChange fnChangingInsertKeyWrong)

end Rows
end Go.Proofs.Qxb6627953a
