/-
  No cell of these rows narrows 'for every input' (looked for: loops, veiled, ifaces, maps, wideKeys, modest, calm, conditions, laid).
  DERIVED. THE GIVEN ROWS OF THIS SEAT. 2 by the template 'for every input the law returns true; each argument reads behind the call as it read before'; 0 by the template 'total and deterministic' (their statements: YbulkhsgFmtTotals.lean).
  GIVEN WITH THE SEED: the statements are not yours to turn. If you find one false, say at which input.
  Laid BY PROGRAM, IN A SANDBOX (cutbox-rows.mjs): the forced cells as the released guide's own fill.sh prints them over the translation 1dd556472711a5bc… (all of the seat's roots in one cut). By AI agents, Wed Nov 11 2026. No macro, syntax, notation, axiom, sorry.
-/
import Derived.Test.YbulkhsgFmtChecked
import GoSem.Claim
import GoSem.ClaimJoined
import GoSem.ClaimMapViews
import Derived.JoinedTies
import Derived.KernelRfl
namespace Go.Proofs.YbulkhsgFmt
/- THE CELL 'sum', in the pinned program and in every row, IS THE sha256 OF THE DUMP (.gsa) THAT YbulkhsgFmtProg.lean LOADS. Nothing in Lean hashes anything: it is a label: what it is worth is what the hold of that sum in a sandbox is worth. -/
noncomputable def Ybaf.pinned : Pinned := { name := "ybulkhsgfmt", sum := "1dd556472711a5bc4be96fdc701de6d3fd5a42719c5a7a45f0100d1ec480a190", checked := Ybaf.checked }
namespace Rows
def none {H : Type} : Left H := { results := [], args := [] }

/-- 'sql.LawS0422AAtEnd': WHATEVER THE INPUT: true; the input reads as it did. -/
def lawS0422AAtEndSpec : ChangeSpec := { name := "lawS0422AAtEnd", fn := fun _ => fun
  | [d1, d2] => { results := [.lit (.bool true)], args := [d1, d2] }
  | _ => none }
def lawS0422AAtEndRow : OpenClaim := { program := "ybulkhsgfmt", sum := "1dd556472711a5bc4be96fdc701de6d3fd5a42719c5a7a45f0100d1ec480a190", func := "example.com/gapwise/gapwise/pkg/sql.LawS0422AAtEnd", spec := "lawS0422AAtEnd", stops := ["fmt.errorf", "fmt.Sprintf"], inPlace := ["fmt.Sprintf", "fmt.errorf"], unfollowed := true, recurses := true, apart := false }
/-- NO THEOREM (fmt's text is open here; it may be false): for the released tool's asking of the row's closed facts alone. THE STATEMENT IS 'LawS0422AAtEndToldSaid' (YbulkhsgFmtCards.lean). -/
def LawS0422AAtEndFormAsk : Prop := lawS0422AAtEndRow.holds Ybaf.pinned (OpenSpec.ofChange lawS0422AAtEndSpec)

/-- ITS FALSE NEIGHBOUR: 'it returns false'. Refute it at one input. -/
def lawS0422AAtEndWrong : ChangeSpec := { name := "lawS0422AAtEnd", fn := fun _ => fun
  | [d1, d2] => { results := [.lit (.bool false)], args := [d1, d2] }
  | _ => none }
def LawS0422AAtEndWrongFormAsk : Prop := lawS0422AAtEndRow.holds Ybaf.pinned (OpenSpec.ofChange lawS0422AAtEndWrong)

/-- 'sql.LawS0422AEndKind': WHATEVER THE INPUT: true; the input reads as it did. -/
def lawS0422AEndKindSpec : ChangeSpec := { name := "lawS0422AEndKind", fn := fun _ => fun
  | [d1, d2, d3] => { results := [.lit (.bool true)], args := [d1, d2, d3] }
  | _ => none }
def lawS0422AEndKindRow : OpenClaim := { program := "ybulkhsgfmt", sum := "1dd556472711a5bc4be96fdc701de6d3fd5a42719c5a7a45f0100d1ec480a190", func := "example.com/gapwise/gapwise/pkg/sql.LawS0422AEndKind", spec := "lawS0422AEndKind", stops := ["fmt.errorf", "fmt.Sprintf"], inPlace := ["fmt.Sprintf", "fmt.errorf"], unfollowed := true, recurses := true, apart := false }
/-- NO THEOREM (fmt's text is open here; it may be false): for the released tool's asking of the row's closed facts alone. THE STATEMENT IS 'LawS0422AEndKindToldSaid' (YbulkhsgFmtCards.lean). -/
def LawS0422AEndKindFormAsk : Prop := lawS0422AEndKindRow.holds Ybaf.pinned (OpenSpec.ofChange lawS0422AEndKindSpec)

/-- ITS FALSE NEIGHBOUR: 'it returns false'. Refute it at one input. -/
def lawS0422AEndKindWrong : ChangeSpec := { name := "lawS0422AEndKind", fn := fun _ => fun
  | [d1, d2, d3] => { results := [.lit (.bool false)], args := [d1, d2, d3] }
  | _ => none }
def LawS0422AEndKindWrongFormAsk : Prop := lawS0422AEndKindRow.holds Ybaf.pinned (OpenSpec.ofChange lawS0422AEndKindWrong)

end Rows
end Go.Proofs.YbulkhsgFmt
