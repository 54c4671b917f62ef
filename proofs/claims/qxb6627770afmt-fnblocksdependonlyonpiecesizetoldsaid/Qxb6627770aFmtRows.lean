/-
  No cell of these rows narrows 'for every input' (looked for: loops, veiled, ifaces, maps, wideKeys, modest, calm, conditions, laid).
  DERIVED. THE GIVEN ROWS OF THIS SEAT. 2 by the template 'for every input the law returns true; each argument reads behind the call as it read before'; 0 by the template 'total and deterministic' (their statements: Qxb6627770aFmtTotals.lean).
  GIVEN WITH THE SEED: the statements are not yours to turn. If you find one false, say at which input.
  Laid BY PROGRAM, IN A SANDBOX (cutbox-rows.mjs): the forced cells as the released guide's own fill.sh prints them over the translation 8a0a6782aeb0bdbc… (all of the seat's roots in one cut). By AI agents, Wed Nov 11 2026. No macro, syntax, notation, axiom, sorry.
-/
import Derived.Test.Qxb6627770aFmtChecked
import GoSem.Claim
import GoSem.ClaimJoined
import GoSem.ClaimMapViews
import Derived.JoinedTies
import Derived.KernelRfl
namespace Go.Proofs.Qxb6627770aFmt
/- THE CELL 'sum', in the pinned program and in every row, IS THE sha256 OF THE DUMP (.gsa) THAT Qxb6627770aFmtProg.lean LOADS. Nothing in Lean hashes anything: it is a label: what it is worth is what the hold of that sum in a sandbox is worth. -/
noncomputable def Tryf.pinned : Pinned := { name := "qxb6627770afmt", sum := "8a0a6782aeb0bdbc30023c16e8ac140bfa6bb45586cdd60f163ce43ec444bc3a", checked := Tryf.checked }
namespace Rows
def none {H : Type} : Left H := { results := [], args := [] }

/-- 'zzlaws_metainfo_b1.FnBlocksTilePieceExactly': WHATEVER THE INPUT: true; the input reads as it did. -/
def fnBlocksTilePieceExactlySpec : ChangeSpec := { name := "fnBlocksTilePieceExactly", fn := fun _ => fun
  | [d1, d2, d3, d4] => { results := [.lit (.bool true)], args := [d1, d2, d3, d4] }
  | _ => none }
def fnBlocksTilePieceExactlyRow : OpenClaim := { program := "qxb6627770afmt", sum := "8a0a6782aeb0bdbc30023c16e8ac140bfa6bb45586cdd60f163ce43ec444bc3a", func := "example.com/swarmwire/swarmwire/zzlaws_metainfo_b1.FnBlocksTilePieceExactly", spec := "fnBlocksTilePieceExactly", stops := ["fmt.Sprintf"], inPlace := ["fmt.Sprintf"], apart := false }
/-- NO THEOREM (fmt's text is open here; it may be false): for the released tool's asking of the row's closed facts alone. THE STATEMENT IS 'FnBlocksTilePieceExactlyToldSaid' (Qxb6627770aFmtCards.lean). -/
def FnBlocksTilePieceExactlyFormAsk : Prop := fnBlocksTilePieceExactlyRow.holds Tryf.pinned (OpenSpec.ofChange fnBlocksTilePieceExactlySpec)

/-- ITS FALSE NEIGHBOUR: 'it returns false'. Refute it at one input. -/
def fnBlocksTilePieceExactlyWrong : ChangeSpec := { name := "fnBlocksTilePieceExactly", fn := fun _ => fun
  | [d1, d2, d3, d4] => { results := [.lit (.bool false)], args := [d1, d2, d3, d4] }
  | _ => none }
def FnBlocksTilePieceExactlyWrongFormAsk : Prop := fnBlocksTilePieceExactlyRow.holds Tryf.pinned (OpenSpec.ofChange fnBlocksTilePieceExactlyWrong)

/-- 'zzlaws_metainfo_b1.FnBlocksDependOnlyOnPieceSize': WHATEVER THE INPUT: true; the input reads as it did. -/
def fnBlocksDependOnlyOnPieceSizeSpec : ChangeSpec := { name := "fnBlocksDependOnlyOnPieceSize", fn := fun _ => fun
  | [d1, d2, d3, d4, d5] => { results := [.lit (.bool true)], args := [d1, d2, d3, d4, d5] }
  | _ => none }
def fnBlocksDependOnlyOnPieceSizeRow : OpenClaim := { program := "qxb6627770afmt", sum := "8a0a6782aeb0bdbc30023c16e8ac140bfa6bb45586cdd60f163ce43ec444bc3a", func := "example.com/swarmwire/swarmwire/zzlaws_metainfo_b1.FnBlocksDependOnlyOnPieceSize", spec := "fnBlocksDependOnlyOnPieceSize", stops := ["fmt.Sprintf"], inPlace := ["fmt.Sprintf"], apart := false }
/-- NO THEOREM (fmt's text is open here; it may be false): for the released tool's asking of the row's closed facts alone. THE STATEMENT IS 'FnBlocksDependOnlyOnPieceSizeToldSaid' (Qxb6627770aFmtCards.lean). -/
def FnBlocksDependOnlyOnPieceSizeFormAsk : Prop := fnBlocksDependOnlyOnPieceSizeRow.holds Tryf.pinned (OpenSpec.ofChange fnBlocksDependOnlyOnPieceSizeSpec)

/-- ITS FALSE NEIGHBOUR: 'it returns false'. Refute it at one input. -/
def fnBlocksDependOnlyOnPieceSizeWrong : ChangeSpec := { name := "fnBlocksDependOnlyOnPieceSize", fn := fun _ => fun
  | [d1, d2, d3, d4, d5] => { results := [.lit (.bool false)], args := [d1, d2, d3, d4, d5] }
  | _ => none }
def FnBlocksDependOnlyOnPieceSizeWrongFormAsk : Prop := fnBlocksDependOnlyOnPieceSizeRow.holds Tryf.pinned (OpenSpec.ofChange fnBlocksDependOnlyOnPieceSizeWrong)

end Rows
end Go.Proofs.Qxb6627770aFmt
