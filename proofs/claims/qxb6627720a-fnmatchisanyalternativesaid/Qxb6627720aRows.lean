/-
  No cell of these rows narrows 'for every input' (looked for: loops, veiled, ifaces, maps, wideKeys, modest, calm, conditions, laid).
  DERIVED. THE GIVEN ROWS OF THIS SEAT. 2 by the template 'for every input the law returns true; each argument reads behind the call as it read before'; 0 by the template 'total and deterministic' (their statements: Qxb6627720aTotals.lean).
  GIVEN WITH THE SEED: the statements are not yours to turn. If you find one false, say at which input.
  Laid BY PROGRAM, IN A SANDBOX (cutbox-rows.mjs): the forced cells as the released guide's own fill.sh prints them over the translation 116e589a97083274… (all of the seat's roots in one cut). By AI agents, Wed Nov 11 2026. No macro, syntax, notation, axiom, sorry.
-/
import Derived.Test.Qxb6627720aChecked
import GoSem.Claim
import GoSem.ClaimJoined
import GoSem.ClaimMapViews
import Derived.JoinedTies
import Derived.KernelRfl
namespace Go.Proofs.Qxb6627720a
/- THE CELL 'sum', in the pinned program and in every row, IS THE sha256 OF THE DUMP (.gsa) THAT Qxb6627720aProg.lean LOADS. Nothing in Lean hashes anything: it is a label: what it is worth is what the hold of that sum in a sandbox is worth. -/
noncomputable def Try.pinned : Pinned := { name := "qxb6627720a", sum := "116e589a97083274c7d81eaf34730921d37f5d17d63ad48e75d0745ab0d14b35", checked := Try.checked }
namespace Rows
def none {H : Type} : Left H := { results := [], args := [] }

/-- 'zzlaws_internal_failsafe_b1.FnMatchIsAnyAlternative': WHATEVER THE INPUT: true; the input reads as it did. -/
def fnMatchIsAnyAlternativeSpec : ChangeSpec := { name := "fnMatchIsAnyAlternative", fn := fun _ => fun
  | [d1, d2, d3, d4] => { results := [.lit (.bool true)], args := [d1, d2, d3, d4] }
  | _ => none }
def fnMatchIsAnyAlternativeRow : OpenClaim := { program := "qxb6627720a", sum := "116e589a97083274c7d81eaf34730921d37f5d17d63ad48e75d0745ab0d14b35", func := "example.com/failover/failover/zzlaws_internal_failsafe_b1.FnMatchIsAnyAlternative", spec := "fnMatchIsAnyAlternative", apart := false }
def FnMatchIsAnyAlternativeSaid : Prop := fnMatchIsAnyAlternativeRow.holds Try.pinned (OpenSpec.ofChange fnMatchIsAnyAlternativeSpec)

/-- ITS FALSE NEIGHBOUR: 'it returns false'. Refute it at one input. -/
def fnMatchIsAnyAlternativeWrong : ChangeSpec := { name := "fnMatchIsAnyAlternative", fn := fun _ => fun
  | [d1, d2, d3, d4] => { results := [.lit (.bool false)], args := [d1, d2, d3, d4] }
  | _ => none }
def FnMatchIsAnyAlternativeWrongFalsely : Prop := fnMatchIsAnyAlternativeRow.holds Try.pinned (OpenSpec.ofChange fnMatchIsAnyAlternativeWrong)

/-- 'zzlaws_internal_failsafe_b1.FnMatchNegationIsComplement': WHATEVER THE INPUT: true; the input reads as it did. -/
def fnMatchNegationIsComplementSpec : ChangeSpec := { name := "fnMatchNegationIsComplement", fn := fun _ => fun
  | [d1, d2] => { results := [.lit (.bool true)], args := [d1, d2] }
  | _ => none }
def fnMatchNegationIsComplementRow : OpenClaim := { program := "qxb6627720a", sum := "116e589a97083274c7d81eaf34730921d37f5d17d63ad48e75d0745ab0d14b35", func := "example.com/failover/failover/zzlaws_internal_failsafe_b1.FnMatchNegationIsComplement", spec := "fnMatchNegationIsComplement", apart := false }
def FnMatchNegationIsComplementSaid : Prop := fnMatchNegationIsComplementRow.holds Try.pinned (OpenSpec.ofChange fnMatchNegationIsComplementSpec)

/-- ITS FALSE NEIGHBOUR: 'it returns false'. Refute it at one input. -/
def fnMatchNegationIsComplementWrong : ChangeSpec := { name := "fnMatchNegationIsComplement", fn := fun _ => fun
  | [d1, d2] => { results := [.lit (.bool false)], args := [d1, d2] }
  | _ => none }
def FnMatchNegationIsComplementWrongFalsely : Prop := fnMatchNegationIsComplementRow.holds Try.pinned (OpenSpec.ofChange fnMatchNegationIsComplementWrong)

end Rows
end Go.Proofs.Qxb6627720a
