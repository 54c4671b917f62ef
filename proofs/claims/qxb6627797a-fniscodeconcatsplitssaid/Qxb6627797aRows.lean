/-
  No cell of these rows narrows 'for every input' (looked for: loops, veiled, ifaces, maps, wideKeys, modest, calm, conditions, laid).
  DERIVED. THE GIVEN ROWS OF THIS SEAT. 2 by the template 'for every input the law returns true; each argument reads behind the call as it read before'; 0 by the template 'total and deterministic' (their statements: Qxb6627797aTotals.lean).
  GIVEN WITH THE SEED: the statements are not yours to turn. If you find one false, say at which input.
  Laid BY PROGRAM, IN A SANDBOX (cutbox-rows.mjs): the forced cells as the released guide's own fill.sh prints them over the translation 71ce375156722087… (all of the seat's roots in one cut). By AI agents, Wed Nov 11 2026. No macro, syntax, notation, axiom, sorry.
-/
import Derived.Test.Qxb6627797aChecked
import GoSem.Claim
import GoSem.ClaimJoined
import GoSem.ClaimMapViews
import Derived.JoinedTies
import Derived.KernelRfl
namespace Go.Proofs.Qxb6627797a
/- THE CELL 'sum', in the pinned program and in every row, IS THE sha256 OF THE DUMP (.gsa) THAT Qxb6627797aProg.lean LOADS. Nothing in Lean hashes anything: it is a label: what it is worth is what the hold of that sum in a sandbox is worth. -/
noncomputable def Try.pinned : Pinned := { name := "qxb6627797a", sum := "71ce37515672208736acd52345e8a4d85b7578ee56dcff14287f4bf3bd90491a", checked := Try.checked }
namespace Rows
def none {H : Type} : Left H := { results := [], args := [] }

/-- 'zzlaws_internal_fund_b1.FnIsCodeConcatSplits': WHATEVER THE INPUT: true; the input reads as it did. -/
def fnIsCodeConcatSplitsSpec : ChangeSpec := { name := "fnIsCodeConcatSplits", fn := fun _ => fun
  | [d1, d2] => { results := [.lit (.bool true)], args := [d1, d2] }
  | _ => none }
def fnIsCodeConcatSplitsRow : OpenClaim := { program := "qxb6627797a", sum := "71ce37515672208736acd52345e8a4d85b7578ee56dcff14287f4bf3bd90491a", func := "example.com/sanfang/sanfang/zzlaws_internal_fund_b1.FnIsCodeConcatSplits", spec := "fnIsCodeConcatSplits", apart := false }
def FnIsCodeConcatSplitsSaid : Prop := fnIsCodeConcatSplitsRow.holds Try.pinned (OpenSpec.ofChange fnIsCodeConcatSplitsSpec)

/-- ITS FALSE NEIGHBOUR: 'it returns false'. Refute it at one input. -/
def fnIsCodeConcatSplitsWrong : ChangeSpec := { name := "fnIsCodeConcatSplits", fn := fun _ => fun
  | [d1, d2] => { results := [.lit (.bool false)], args := [d1, d2] }
  | _ => none }
def FnIsCodeConcatSplitsWrongFalsely : Prop := fnIsCodeConcatSplitsRow.holds Try.pinned (OpenSpec.ofChange fnIsCodeConcatSplitsWrong)

/-- 'zzlaws_internal_fund_b1.FnIsCodeInsertByte': WHATEVER THE INPUT: true; the input reads as it did. -/
def fnIsCodeInsertByteSpec : ChangeSpec := { name := "fnIsCodeInsertByte", fn := fun _ => fun
  | [d1, d2, d3] => { results := [.lit (.bool true)], args := [d1, d2, d3] }
  | _ => none }
def fnIsCodeInsertByteRow : OpenClaim := { program := "qxb6627797a", sum := "71ce37515672208736acd52345e8a4d85b7578ee56dcff14287f4bf3bd90491a", func := "example.com/sanfang/sanfang/zzlaws_internal_fund_b1.FnIsCodeInsertByte", spec := "fnIsCodeInsertByte", apart := false }
def FnIsCodeInsertByteSaid : Prop := fnIsCodeInsertByteRow.holds Try.pinned (OpenSpec.ofChange fnIsCodeInsertByteSpec)

/-- ITS FALSE NEIGHBOUR: 'it returns false'. Refute it at one input. -/
def fnIsCodeInsertByteWrong : ChangeSpec := { name := "fnIsCodeInsertByte", fn := fun _ => fun
  | [d1, d2, d3] => { results := [.lit (.bool false)], args := [d1, d2, d3] }
  | _ => none }
def FnIsCodeInsertByteWrongFalsely : Prop := fnIsCodeInsertByteRow.holds Try.pinned (OpenSpec.ofChange fnIsCodeInsertByteWrong)

end Rows
end Go.Proofs.Qxb6627797a
