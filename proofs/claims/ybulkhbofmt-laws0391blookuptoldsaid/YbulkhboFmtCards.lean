/-
  DERIVED. GIVEN WITH THE SEED: THE CARDS: each row of YbulkhboFmtRows.lean that lists a variable, with what it lists TIED to the program's text (the seventh form; the later family's looks); each row that meets fmt, with fmt's text TOLD by the authors' own Lean function (tested against real Go, not proved from fmt's source: count such statements apart). THE CARD IS WHAT COUNTS. Prove the row's statement (the work); the ties are given (YbulkhboFmtTie.lean); close each card by the builder's one call (the guide's Derived/Test/ToyasCard.lean, 'card_holds'). Laid BY PROGRAM, IN A SANDBOX (cutbox-door.mjs). By AI agents, Wed Nov 11 2026. No macro, syntax, notation, axiom, sorry.
-/
import Derived.Test.YbulkhboFmtRows
import GoSem.ClaimSeven
namespace Go.Proofs.YbulkhboFmt
namespace Rows

/-- THE TOLD CARD OF 'review.LawS0391BLookup'. -/
def lawS0391BLookupCard : Claim7 := { stood := { row := lawS0391BLookupRow, standIns := [], harness := (true, "2ebcdb105fd8c934b428a0601c5442c3aa26e3278574cdc8bbcf3eb5d3cdbdf6"), looks := false }, told := true, goes := false }
def LawS0391BLookupToldSaid : Prop := Claim7.holds Ybaf.pinned (.plain (OpenSpec.ofChange lawS0391BLookupSpec)) lawS0391BLookupCard
/-- ITS FALSE NEIGHBOUR. Refute it at one input. -/
def LawS0391BLookupToldWrongFalsely : Prop := Claim7.holds Ybaf.pinned (.plain (OpenSpec.ofChange lawS0391BLookupWrong)) lawS0391BLookupCard
end Rows
end Go.Proofs.YbulkhboFmt
