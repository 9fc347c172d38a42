/-
  DERIVED. GIVEN WITH THE SEED: THE CARDS: each row of Qxb6627573aDoorRows.lean that lists a variable, with what it lists TIED to the program's text (the seventh form; the later family's looks); each row that meets fmt, with fmt's text TOLD by the authors' own Lean function (tested against real Go, not proved from fmt's source: count such statements apart). THE CARD IS WHAT COUNTS. Prove the row's statement (the work); the ties are given (Qxb6627573aDoorTie.lean); close each card by the builder's one call (the guide's Derived/Test/ToyasCard.lean, 'card_holds'). Laid BY PROGRAM, IN A SANDBOX (cutbox-door.mjs). By AI agents, Wed Nov 11 2026. No macro, syntax, notation, axiom, sorry.
-/
import Derived.Test.Qxb6627573aDoorRows
import GoSem.ClaimSeven
namespace Go.Proofs.Qxb6627573aDoor
namespace Rows

/-- THE TIED CARD OF 'zzlaws_internal_reqpath_b1.FnSentKeepsClientSpellingElseDefault'. -/
def fnSentKeepsClientSpellingElseDefaultCard : Claim7 := { stood := { row := fnSentKeepsClientSpellingElseDefaultRow, standIns := [], harness := (true, "c2c6c17d25ebe9fdc8861fc054a374e7a453cce76636d1f3f4f85f9861e38f70"), looks := false }, kinds := [], alts := [], laidByText := true, laidKinds := [.data], laidTests := true, laidLooks := .later }
def FnSentKeepsClientSpellingElseDefaultCardSaid : Prop := Claim7.holds Tryd.pinned (.plain (OpenSpec.ofChange fnSentKeepsClientSpellingElseDefaultSpec)) fnSentKeepsClientSpellingElseDefaultCard

/-- THE TIED CARD OF 'zzlaws_internal_reqpath_b1.FnSentDecodesToPathAndIsAFixedPoint'. -/
def fnSentDecodesToPathAndIsAFixedPointCard : Claim7 := { stood := { row := fnSentDecodesToPathAndIsAFixedPointRow, standIns := [], harness := (true, "c2c6c17d25ebe9fdc8861fc054a374e7a453cce76636d1f3f4f85f9861e38f70"), looks := false }, kinds := [], alts := [], laidByText := true, laidKinds := [.data], laidTests := true, laidLooks := .later }
def FnSentDecodesToPathAndIsAFixedPointCardSaid : Prop := Claim7.holds Tryd.pinned (.plain (OpenSpec.ofChange fnSentDecodesToPathAndIsAFixedPointSpec)) fnSentDecodesToPathAndIsAFixedPointCard
end Rows
end Go.Proofs.Qxb6627573aDoor
