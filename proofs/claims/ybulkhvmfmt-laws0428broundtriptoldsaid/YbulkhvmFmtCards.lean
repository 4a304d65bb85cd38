/-
  DERIVED. GIVEN WITH THE SEED: THE CARDS: each row of YbulkhvmFmtRows.lean that lists a variable, with what it lists TIED to the program's text (the seventh form; the later family's looks); each row that meets fmt, with fmt's text TOLD by the authors' own Lean function (tested against real Go, not proved from fmt's source: count such statements apart). THE CARD IS WHAT COUNTS. Prove the row's statement (the work); the ties are given (YbulkhvmFmtTie.lean); close each card by the builder's one call (the guide's Derived/Test/ToyasCard.lean, 'card_holds'). Laid BY PROGRAM, IN A SANDBOX (cutbox-door.mjs). By AI agents, Wed Nov 11 2026. No macro, syntax, notation, axiom, sorry.
-/
import Derived.Test.YbulkhvmFmtRows
import GoSem.ClaimSeven
namespace Go.Proofs.YbulkhvmFmt
namespace Rows

/-- THE TOLD CARD OF 'chunk.LawS0428BExact'. -/
def lawS0428BExactCard : Claim7 := { stood := { row := lawS0428BExactRow, standIns := [], harness := (true, "d309272184f3d9b274da23ac923968350ac12ea1aa912ffee51f34e6caf0b8d4"), looks := false }, told := true, goes := false }
def LawS0428BExactToldSaid : Prop := Claim7.holds Ybaf.pinned (.plain (OpenSpec.ofChange lawS0428BExactSpec)) lawS0428BExactCard
/-- ITS FALSE NEIGHBOUR. Refute it at one input. -/
def LawS0428BExactToldWrongFalsely : Prop := Claim7.holds Ybaf.pinned (.plain (OpenSpec.ofChange lawS0428BExactWrong)) lawS0428BExactCard

/-- THE TOLD CARD OF 'chunk.LawS0428BRoundTrip'. -/
def lawS0428BRoundTripCard : Claim7 := { stood := { row := lawS0428BRoundTripRow, standIns := [], harness := (true, "d309272184f3d9b274da23ac923968350ac12ea1aa912ffee51f34e6caf0b8d4"), looks := false }, told := true, goes := false }
def LawS0428BRoundTripToldSaid : Prop := Claim7.holds Ybaf.pinned (.plain (OpenSpec.ofChange lawS0428BRoundTripSpec)) lawS0428BRoundTripCard
/-- ITS FALSE NEIGHBOUR. Refute it at one input. -/
def LawS0428BRoundTripToldWrongFalsely : Prop := Claim7.holds Ybaf.pinned (.plain (OpenSpec.ofChange lawS0428BRoundTripWrong)) lawS0428BRoundTripCard
end Rows
end Go.Proofs.YbulkhvmFmt
