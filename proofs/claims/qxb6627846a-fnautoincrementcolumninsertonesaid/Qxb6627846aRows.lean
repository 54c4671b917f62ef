/-
  No cell of these rows narrows 'for every input' (looked for: loops, veiled, ifaces, maps, wideKeys, modest, calm, conditions, laid).
  DERIVED. THE GIVEN ROWS OF THIS SEAT. 2 by the template 'for every input the law returns true; each argument reads behind the call as it read before'; 0 by the template 'total and deterministic' (their statements: Qxb6627846aTotals.lean).
  GIVEN WITH THE SEED: the statements are not yours to turn. If you find one false, say at which input.
  Laid BY PROGRAM, IN A SANDBOX (cutbox-rows.mjs): the forced cells as the released guide's own fill.sh prints them over the translation b8ec71d097831429… (all of the seat's roots in one cut). By AI agents, Wed Nov 11 2026. No macro, syntax, notation, axiom, sorry.
-/
import Derived.Test.Qxb6627846aChecked
import GoSem.Claim
import GoSem.ClaimJoined
import GoSem.ClaimMapViews
import Derived.JoinedTies
import Derived.KernelRfl
namespace Go.Proofs.Qxb6627846a
/- THE CELL 'sum', in the pinned program and in every row, IS THE sha256 OF THE DUMP (.gsa) THAT Qxb6627846aProg.lean LOADS. Nothing in Lean hashes anything: it is a label: what it is worth is what the hold of that sum in a sandbox is worth. -/
noncomputable def Try.pinned : Pinned := { name := "qxb6627846a", sum := "b8ec71d097831429e8063e0a08ea9c3a05967e7d28ecc1dd4fbee04c963c239c", checked := Try.checked }
namespace Rows
def none {H : Type} : Left H := { results := [], args := [] }

/-- 'zzlaws_internal_engine_b1.FnAutoIncrementColumnFirstFlaggedAtAnyCut': WHATEVER THE INPUT: true; the input reads as it did. -/
def fnAutoIncrementColumnFirstFlaggedAtAnyCutSpec : ChangeSpec := { name := "fnAutoIncrementColumnFirstFlaggedAtAnyCut", fn := fun _ => fun
  | [d1, d2] => { results := [.lit (.bool true)], args := [d1, d2] }
  | _ => none }
def fnAutoIncrementColumnFirstFlaggedAtAnyCutRow : OpenClaim := { program := "qxb6627846a", sum := "b8ec71d097831429e8063e0a08ea9c3a05967e7d28ecc1dd4fbee04c963c239c", func := "example.com/latchwork/latchwork/zzlaws_internal_engine_b1.FnAutoIncrementColumnFirstFlaggedAtAnyCut", spec := "fnAutoIncrementColumnFirstFlaggedAtAnyCut", apart := false }
def FnAutoIncrementColumnFirstFlaggedAtAnyCutSaid : Prop := fnAutoIncrementColumnFirstFlaggedAtAnyCutRow.holds Try.pinned (OpenSpec.ofChange fnAutoIncrementColumnFirstFlaggedAtAnyCutSpec)

/-- ITS FALSE NEIGHBOUR: 'it returns false'. Refute it at one input. -/
def fnAutoIncrementColumnFirstFlaggedAtAnyCutWrong : ChangeSpec := { name := "fnAutoIncrementColumnFirstFlaggedAtAnyCut", fn := fun _ => fun
  | [d1, d2] => { results := [.lit (.bool false)], args := [d1, d2] }
  | _ => none }
def FnAutoIncrementColumnFirstFlaggedAtAnyCutWrongFalsely : Prop := fnAutoIncrementColumnFirstFlaggedAtAnyCutRow.holds Try.pinned (OpenSpec.ofChange fnAutoIncrementColumnFirstFlaggedAtAnyCutWrong)

/-- 'zzlaws_internal_engine_b1.FnAutoIncrementColumnInsertOne': WHATEVER THE INPUT: true; the input reads as it did. -/
def fnAutoIncrementColumnInsertOneSpec : ChangeSpec := { name := "fnAutoIncrementColumnInsertOne", fn := fun _ => fun
  | [d1, d2, d3] => { results := [.lit (.bool true)], args := [d1, d2, d3] }
  | _ => none }
def fnAutoIncrementColumnInsertOneRow : OpenClaim := { program := "qxb6627846a", sum := "b8ec71d097831429e8063e0a08ea9c3a05967e7d28ecc1dd4fbee04c963c239c", func := "example.com/latchwork/latchwork/zzlaws_internal_engine_b1.FnAutoIncrementColumnInsertOne", spec := "fnAutoIncrementColumnInsertOne", apart := false }
def FnAutoIncrementColumnInsertOneSaid : Prop := fnAutoIncrementColumnInsertOneRow.holds Try.pinned (OpenSpec.ofChange fnAutoIncrementColumnInsertOneSpec)

/-- ITS FALSE NEIGHBOUR: 'it returns false'. Refute it at one input. -/
def fnAutoIncrementColumnInsertOneWrong : ChangeSpec := { name := "fnAutoIncrementColumnInsertOne", fn := fun _ => fun
  | [d1, d2, d3] => { results := [.lit (.bool false)], args := [d1, d2, d3] }
  | _ => none }
def FnAutoIncrementColumnInsertOneWrongFalsely : Prop := fnAutoIncrementColumnInsertOneRow.holds Try.pinned (OpenSpec.ofChange fnAutoIncrementColumnInsertOneWrong)

end Rows
end Go.Proofs.Qxb6627846a
