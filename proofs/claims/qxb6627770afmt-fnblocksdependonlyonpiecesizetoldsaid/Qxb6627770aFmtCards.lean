/-
  DERIVED. GIVEN WITH THE SEED: THE CARDS: each row of Qxb6627770aFmtRows.lean that lists a variable, with what it lists TIED to the program's text (the seventh form; the later family's looks); each row that meets fmt, with fmt's text TOLD by the authors' own Lean function (tested against real Go, not proved from fmt's source: count such statements apart). THE CARD IS WHAT COUNTS. Prove the row's statement (the work); the ties are given (Qxb6627770aFmtTie.lean); close each card by the builder's one call (the guide's Derived/Test/ToyasCard.lean, 'card_holds'). Laid BY PROGRAM, IN A SANDBOX (cutbox-door.mjs). By AI agents, Wed Nov 11 2026. No macro, syntax, notation, axiom, sorry.
-/
import Derived.Test.Qxb6627770aFmtRows
import GoSem.ClaimSeven
namespace Go.Proofs.Qxb6627770aFmt
namespace Rows

/-- THE TOLD CARD OF 'zzlaws_metainfo_b1.FnBlocksTilePieceExactly'. -/
def fnBlocksTilePieceExactlyCard : Claim7 := { stood := { row := fnBlocksTilePieceExactlyRow, standIns := [], harness := (true, "11cca7c9dc5b4f090327a3318caa2814aae9e801028913b4ec95a7b250e40128"), looks := false }, told := true, goes := false }
def FnBlocksTilePieceExactlyToldSaid : Prop := Claim7.holds Tryf.pinned (.plain (OpenSpec.ofChange fnBlocksTilePieceExactlySpec)) fnBlocksTilePieceExactlyCard
/-- ITS FALSE NEIGHBOUR. Refute it at one input. -/
def FnBlocksTilePieceExactlyToldWrongFalsely : Prop := Claim7.holds Tryf.pinned (.plain (OpenSpec.ofChange fnBlocksTilePieceExactlyWrong)) fnBlocksTilePieceExactlyCard

/-- THE TOLD CARD OF 'zzlaws_metainfo_b1.FnBlocksDependOnlyOnPieceSize'. -/
def fnBlocksDependOnlyOnPieceSizeCard : Claim7 := { stood := { row := fnBlocksDependOnlyOnPieceSizeRow, standIns := [], harness := (true, "11cca7c9dc5b4f090327a3318caa2814aae9e801028913b4ec95a7b250e40128"), looks := false }, told := true, goes := false }
def FnBlocksDependOnlyOnPieceSizeToldSaid : Prop := Claim7.holds Tryf.pinned (.plain (OpenSpec.ofChange fnBlocksDependOnlyOnPieceSizeSpec)) fnBlocksDependOnlyOnPieceSizeCard
/-- ITS FALSE NEIGHBOUR. Refute it at one input. -/
def FnBlocksDependOnlyOnPieceSizeToldWrongFalsely : Prop := Claim7.holds Tryf.pinned (.plain (OpenSpec.ofChange fnBlocksDependOnlyOnPieceSizeWrong)) fnBlocksDependOnlyOnPieceSizeCard
end Rows
end Go.Proofs.Qxb6627770aFmt
