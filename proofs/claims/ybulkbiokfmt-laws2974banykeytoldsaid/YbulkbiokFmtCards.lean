/-
  DERIVED. GIVEN WITH THE SEED: THE CARDS: each row of YbulkbiokFmtRows.lean that lists a variable, with what it lists TIED to the program's text (the seventh form; the later family's looks); each row that meets fmt, with fmt's text TOLD by the authors' own Lean function (tested against real Go, not proved from fmt's source: count such statements apart). THE CARD IS WHAT COUNTS. Prove the row's statement (the work); the ties are given (YbulkbiokFmtTie.lean); close each card by the builder's one call (the guide's Derived/Test/ToyasCard.lean, 'card_holds'). Laid BY PROGRAM, IN A SANDBOX (cutbox-door.mjs). By AI agents, Wed Nov 11 2026. No macro, syntax, notation, axiom, sorry.
-/
import Derived.Test.YbulkbiokFmtRows
import GoSem.ClaimSeven
namespace Go.Proofs.YbulkbiokFmt
namespace Rows

/-- THE TOLD CARD OF 'loyal-quorum.LawS2974BNameKey'. -/
def lawS2974BNameKeyCard : Claim7 := { stood := { row := lawS2974BNameKeyRow, standIns := [], harness := (true, "0543672dfd69750f2edf52687f48589424354058f5ba670c57a871e522398aea"), looks := false }, told := true, goes := false }
def LawS2974BNameKeyToldSaid : Prop := Claim7.holds Ybaf.pinned (.plain (OpenSpec.ofChange lawS2974BNameKeySpec)) lawS2974BNameKeyCard
/-- ITS FALSE NEIGHBOUR. Refute it at one input. -/
def LawS2974BNameKeyToldWrongFalsely : Prop := Claim7.holds Ybaf.pinned (.plain (OpenSpec.ofChange lawS2974BNameKeyWrong)) lawS2974BNameKeyCard

/-- THE TOLD CARD OF 'loyal-quorum.LawS2974BAnyKey'. -/
def lawS2974BAnyKeyCard : Claim7 := { stood := { row := lawS2974BAnyKeyRow, standIns := [], harness := (true, "0543672dfd69750f2edf52687f48589424354058f5ba670c57a871e522398aea"), looks := false }, told := true, goes := false }
def LawS2974BAnyKeyToldSaid : Prop := Claim7.holds Ybaf.pinned (.plain (OpenSpec.ofChange lawS2974BAnyKeySpec)) lawS2974BAnyKeyCard
/-- ITS FALSE NEIGHBOUR. Refute it at one input. -/
def LawS2974BAnyKeyToldWrongFalsely : Prop := Claim7.holds Ybaf.pinned (.plain (OpenSpec.ofChange lawS2974BAnyKeyWrong)) lawS2974BAnyKeyCard
end Rows
end Go.Proofs.YbulkbiokFmt
