/-
  No cell of these rows narrows 'for every input' (looked for: loops, veiled, ifaces, maps, wideKeys, modest, calm, conditions, laid).
  DERIVED. THE GIVEN ROWS OF THIS SEAT. 2 by the template 'for every input the law returns true; each argument reads behind the call as it read before'; 0 by the template 'total and deterministic' (their statements: Qxb6627918aTotals.lean).
  GIVEN WITH THE SEED: the statements are not yours to turn. If you find one false, say at which input.
  Laid BY PROGRAM, IN A SANDBOX (cutbox-rows.mjs): the forced cells as the released guide's own fill.sh prints them over the translation 6d3b78c836732f8a… (all of the seat's roots in one cut). By AI agents, Wed Nov 11 2026. No macro, syntax, notation, axiom, sorry.
-/
import Derived.Test.Qxb6627918aChecked
import GoSem.Claim
import GoSem.ClaimJoined
import GoSem.ClaimMapViews
import Derived.JoinedTies
import Derived.KernelRfl
namespace Go.Proofs.Qxb6627918a
/- THE CELL 'sum', in the pinned program and in every row, IS THE sha256 OF THE DUMP (.gsa) THAT Qxb6627918aProg.lean LOADS. Nothing in Lean hashes anything: it is a label: what it is worth is what the hold of that sum in a sandbox is worth. -/
noncomputable def Try.pinned : Pinned := { name := "qxb6627918a", sum := "6d3b78c836732f8a68309c6d03f82238420233b65c873c94906c5074411d705d", checked := Try.checked }
namespace Rows
def none {H : Type} : Left H := { results := [], args := [] }

/-- 'zzlaws_internal_jsonshape_b1.FnAppendRawStringDecodesBack': WHATEVER THE INPUT: true; the input reads as it did. -/
def fnAppendRawStringDecodesBackSpec : ChangeSpec := { name := "fnAppendRawStringDecodesBack", fn := fun _ => fun
  | [d1, d2] => { results := [.lit (.bool true)], args := [d1, d2] }
  | _ => none }
def fnAppendRawStringDecodesBackRow : OpenClaim := { program := "qxb6627918a", sum := "6d3b78c836732f8a68309c6d03f82238420233b65c873c94906c5074411d705d", func := "example.com/ferrule/ferrule/zzlaws_internal_jsonshape_b1.FnAppendRawStringDecodesBack", spec := "fnAppendRawStringDecodesBack", apart := false }
def FnAppendRawStringDecodesBackSaid : Prop := fnAppendRawStringDecodesBackRow.holds Try.pinned (OpenSpec.ofChange fnAppendRawStringDecodesBackSpec)

/-- ITS FALSE NEIGHBOUR: 'it returns false'. Refute it at one input. -/
def fnAppendRawStringDecodesBackWrong : ChangeSpec := { name := "fnAppendRawStringDecodesBack", fn := fun _ => fun
  | [d1, d2] => { results := [.lit (.bool false)], args := [d1, d2] }
  | _ => none }
def FnAppendRawStringDecodesBackWrongFalsely : Prop := fnAppendRawStringDecodesBackRow.holds Try.pinned (OpenSpec.ofChange fnAppendRawStringDecodesBackWrong)

/-- 'zzlaws_internal_jsonshape_b1.FnAppendRawStringSplitsAtAnyCut': WHATEVER THE INPUT: true; the input reads as it did. -/
def fnAppendRawStringSplitsAtAnyCutSpec : ChangeSpec := { name := "fnAppendRawStringSplitsAtAnyCut", fn := fun _ => fun
  | [d1, d2, d3] => { results := [.lit (.bool true)], args := [d1, d2, d3] }
  | _ => none }
def fnAppendRawStringSplitsAtAnyCutRow : OpenClaim := { program := "qxb6627918a", sum := "6d3b78c836732f8a68309c6d03f82238420233b65c873c94906c5074411d705d", func := "example.com/ferrule/ferrule/zzlaws_internal_jsonshape_b1.FnAppendRawStringSplitsAtAnyCut", spec := "fnAppendRawStringSplitsAtAnyCut", apart := false }
def FnAppendRawStringSplitsAtAnyCutSaid : Prop := fnAppendRawStringSplitsAtAnyCutRow.holds Try.pinned (OpenSpec.ofChange fnAppendRawStringSplitsAtAnyCutSpec)

/-- ITS FALSE NEIGHBOUR: 'it returns false'. Refute it at one input. -/
def fnAppendRawStringSplitsAtAnyCutWrong : ChangeSpec := { name := "fnAppendRawStringSplitsAtAnyCut", fn := fun _ => fun
  | [d1, d2, d3] => { results := [.lit (.bool false)], args := [d1, d2, d3] }
  | _ => none }
def FnAppendRawStringSplitsAtAnyCutWrongFalsely : Prop := fnAppendRawStringSplitsAtAnyCutRow.holds Try.pinned (OpenSpec.ofChange fnAppendRawStringSplitsAtAnyCutWrong)

end Rows
end Go.Proofs.Qxb6627918a
