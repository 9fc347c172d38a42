/-
  DERIVED. GIVEN WITH THE SEED: THE CARDS: each row of Qxb6627622aFmtRows.lean that lists a variable, with what it lists TIED to the program's text (the seventh form; the later family's looks); each row that meets fmt, with fmt's text TOLD by the authors' own Lean function (tested against real Go, not proved from fmt's source: count such statements apart). THE CARD IS WHAT COUNTS. Prove the row's statement (the work); the ties are given (Qxb6627622aFmtTie.lean); close each card by the builder's one call (the guide's Derived/Test/ToyasCard.lean, 'card_holds'). Laid BY PROGRAM, IN A SANDBOX (cutbox-door.mjs). By AI agents, Wed Nov 11 2026. No macro, syntax, notation, axiom, sorry.
-/
import Derived.Test.Qxb6627622aFmtRows
import GoSem.ClaimSeven
namespace Go.Proofs.Qxb6627622aFmt
namespace Rows

/-- THE TOLD CARD OF 'zzlaws_internal_pricing_b1.FnCheckNameJoin'. -/
def fnCheckNameJoinCard : Claim7 := { stood := { row := fnCheckNameJoinRow, standIns := [], harness := (true, "67c60dd744055e04be61df7d8d5d3ee666490f89cfa4eb0f04e71d326a63ea15"), looks := false }, told := true, goes := false }
def FnCheckNameJoinToldSaid : Prop := Claim7.holds Tryf.pinned (.plain (OpenSpec.ofChange fnCheckNameJoinSpec)) fnCheckNameJoinCard
/-- ITS FALSE NEIGHBOUR. Refute it at one input. -/
def FnCheckNameJoinToldWrongFalsely : Prop := Claim7.holds Tryf.pinned (.plain (OpenSpec.ofChange fnCheckNameJoinWrong)) fnCheckNameJoinCard

/-- THE TOLD CARD OF 'zzlaws_internal_pricing_b1.FnCheckNameInsertOneByte'. -/
def fnCheckNameInsertOneByteCard : Claim7 := { stood := { row := fnCheckNameInsertOneByteRow, standIns := [], harness := (true, "67c60dd744055e04be61df7d8d5d3ee666490f89cfa4eb0f04e71d326a63ea15"), looks := false }, told := true, goes := false }
def FnCheckNameInsertOneByteToldSaid : Prop := Claim7.holds Tryf.pinned (.plain (OpenSpec.ofChange fnCheckNameInsertOneByteSpec)) fnCheckNameInsertOneByteCard
/-- ITS FALSE NEIGHBOUR. Refute it at one input. -/
def FnCheckNameInsertOneByteToldWrongFalsely : Prop := Claim7.holds Tryf.pinned (.plain (OpenSpec.ofChange fnCheckNameInsertOneByteWrong)) fnCheckNameInsertOneByteCard
end Rows
end Go.Proofs.Qxb6627622aFmt
