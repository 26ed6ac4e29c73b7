/-
  No cell of these rows narrows 'for every input' (looked for: loops, veiled, ifaces, maps, wideKeys, modest, calm, conditions, laid).
  DERIVED. THE GIVEN ROWS OF THIS SEAT. 2 by the template 'for every input the law returns true; each argument reads behind the call as it read before'; 0 by the template 'total and deterministic' (their statements: Qxb6628014aTotals.lean).
  GIVEN WITH THE SEED: the statements are not yours to turn. If you find one false, say at which input.
  Laid BY PROGRAM, IN A SANDBOX (cutbox-rows.mjs): the forced cells as the released guide's own fill.sh prints them over the translation 971f2ff39295ef54… (all of the seat's roots in one cut). By AI agents, Wed Nov 11 2026. No macro, syntax, notation, axiom, sorry.
-/
import Derived.Test.Qxb6628014aChecked
import GoSem.Claim
import GoSem.ClaimJoined
import GoSem.ClaimMapViews
import Derived.JoinedTies
import Derived.KernelRfl
namespace Go.Proofs.Qxb6628014a
/- THE CELL 'sum', in the pinned program and in every row, IS THE sha256 OF THE DUMP (.gsa) THAT Qxb6628014aProg.lean LOADS. Nothing in Lean hashes anything: it is a label: what it is worth is what the hold of that sum in a sandbox is worth. -/
noncomputable def Try.pinned : Pinned := { name := "qxb6628014a", sum := "971f2ff39295ef549b5f4e9f75f41071743e3ae12f25ae2723e1e0fb023926a6", checked := Try.checked }
namespace Rows
def none {H : Type} : Left H := { results := [], args := [] }

/-- 'zzlaws_internal_value_b1.FnQuoteCutPastFortyKeepsAnswer': WHATEVER THE INPUT: true; the input reads as it did. -/
def fnQuoteCutPastFortyKeepsAnswerSpec : ChangeSpec := { name := "fnQuoteCutPastFortyKeepsAnswer", fn := fun _ => fun
  | [d1, d2] => { results := [.lit (.bool true)], args := [d1, d2] }
  | _ => none }
def fnQuoteCutPastFortyKeepsAnswerRow : OpenClaim := { program := "qxb6628014a", sum := "971f2ff39295ef549b5f4e9f75f41071743e3ae12f25ae2723e1e0fb023926a6", func := "example.com/holdfast/holdfast/zzlaws_internal_value_b1.FnQuoteCutPastFortyKeepsAnswer", spec := "fnQuoteCutPastFortyKeepsAnswer", apart := false }
def FnQuoteCutPastFortyKeepsAnswerSaid : Prop := fnQuoteCutPastFortyKeepsAnswerRow.holds Try.pinned (OpenSpec.ofChange fnQuoteCutPastFortyKeepsAnswerSpec)

/-- ITS FALSE NEIGHBOUR: 'it returns false'. Refute it at one input. -/
def fnQuoteCutPastFortyKeepsAnswerWrong : ChangeSpec := { name := "fnQuoteCutPastFortyKeepsAnswer", fn := fun _ => fun
  | [d1, d2] => { results := [.lit (.bool false)], args := [d1, d2] }
  | _ => none }
def FnQuoteCutPastFortyKeepsAnswerWrongFalsely : Prop := fnQuoteCutPastFortyKeepsAnswerRow.holds Try.pinned (OpenSpec.ofChange fnQuoteCutPastFortyKeepsAnswerWrong)

/-- 'zzlaws_internal_value_b1.FnQuoteAppendPastFortyKeepsAnswer': WHATEVER THE INPUT: true; the input reads as it did. -/
def fnQuoteAppendPastFortyKeepsAnswerSpec : ChangeSpec := { name := "fnQuoteAppendPastFortyKeepsAnswer", fn := fun _ => fun
  | [d1, d2] => { results := [.lit (.bool true)], args := [d1, d2] }
  | _ => none }
def fnQuoteAppendPastFortyKeepsAnswerRow : OpenClaim := { program := "qxb6628014a", sum := "971f2ff39295ef549b5f4e9f75f41071743e3ae12f25ae2723e1e0fb023926a6", func := "example.com/holdfast/holdfast/zzlaws_internal_value_b1.FnQuoteAppendPastFortyKeepsAnswer", spec := "fnQuoteAppendPastFortyKeepsAnswer", apart := false }
def FnQuoteAppendPastFortyKeepsAnswerSaid : Prop := fnQuoteAppendPastFortyKeepsAnswerRow.holds Try.pinned (OpenSpec.ofChange fnQuoteAppendPastFortyKeepsAnswerSpec)

/-- ITS FALSE NEIGHBOUR: 'it returns false'. Refute it at one input. -/
def fnQuoteAppendPastFortyKeepsAnswerWrong : ChangeSpec := { name := "fnQuoteAppendPastFortyKeepsAnswer", fn := fun _ => fun
  | [d1, d2] => { results := [.lit (.bool false)], args := [d1, d2] }
  | _ => none }
def FnQuoteAppendPastFortyKeepsAnswerWrongFalsely : Prop := fnQuoteAppendPastFortyKeepsAnswerRow.holds Try.pinned (OpenSpec.ofChange fnQuoteAppendPastFortyKeepsAnswerWrong)

end Rows
end Go.Proofs.Qxb6628014a
