/-
  DERIVED. GIVEN WITH THE SEED: THE CARDS: each row of YbulkhsgFmtRows.lean that lists a variable, with what it lists TIED to the program's text (the seventh form; the later family's looks); each row that meets fmt, with fmt's text TOLD by the authors' own Lean function (tested against real Go, not proved from fmt's source: count such statements apart). THE CARD IS WHAT COUNTS. Prove the row's statement (the work); the ties are given (YbulkhsgFmtTie.lean); close each card by the builder's one call (the guide's Derived/Test/ToyasCard.lean, 'card_holds'). Laid BY PROGRAM, IN A SANDBOX (cutbox-door.mjs). By AI agents, Wed Nov 11 2026. No macro, syntax, notation, axiom, sorry.
-/
import Derived.Test.YbulkhsgFmtRows
import GoSem.ClaimSeven
namespace Go.Proofs.YbulkhsgFmt
namespace Rows

/-- THE TOLD CARD OF 'sql.LawS0422AAtEnd'. -/
def lawS0422AAtEndCard : Claim7 := { stood := { row := lawS0422AAtEndRow, standIns := [], harness := (true, "c6f2ed0dd0e6b41c7864ddd8a9a173f2b451d1f1376df3aa4c2502168b720ba2"), looks := false }, told := true, goes := false }
def LawS0422AAtEndToldSaid : Prop := Claim7.holds Ybaf.pinned (.plain (OpenSpec.ofChange lawS0422AAtEndSpec)) lawS0422AAtEndCard
/-- ITS FALSE NEIGHBOUR. Refute it at one input. -/
def LawS0422AAtEndToldWrongFalsely : Prop := Claim7.holds Ybaf.pinned (.plain (OpenSpec.ofChange lawS0422AAtEndWrong)) lawS0422AAtEndCard

/-- THE TOLD CARD OF 'sql.LawS0422AEndKind'. -/
def lawS0422AEndKindCard : Claim7 := { stood := { row := lawS0422AEndKindRow, standIns := [], harness := (true, "c6f2ed0dd0e6b41c7864ddd8a9a173f2b451d1f1376df3aa4c2502168b720ba2"), looks := false }, told := true, goes := false }
def LawS0422AEndKindToldSaid : Prop := Claim7.holds Ybaf.pinned (.plain (OpenSpec.ofChange lawS0422AEndKindSpec)) lawS0422AEndKindCard
/-- ITS FALSE NEIGHBOUR. Refute it at one input. -/
def LawS0422AEndKindToldWrongFalsely : Prop := Claim7.holds Ybaf.pinned (.plain (OpenSpec.ofChange lawS0422AEndKindWrong)) lawS0422AEndKindCard
end Rows
end Go.Proofs.YbulkhsgFmt
