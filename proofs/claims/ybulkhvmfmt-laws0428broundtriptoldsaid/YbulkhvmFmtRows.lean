/-
  No cell of these rows narrows 'for every input' (looked for: loops, veiled, ifaces, maps, wideKeys, modest, calm, conditions, laid).
  DERIVED. THE GIVEN ROWS OF THIS SEAT. 2 by the template 'for every input the law returns true; each argument reads behind the call as it read before'; 0 by the template 'total and deterministic' (their statements: YbulkhvmFmtTotals.lean).
  GIVEN WITH THE SEED: the statements are not yours to turn. If you find one false, say at which input.
  Laid BY PROGRAM, IN A SANDBOX (cutbox-rows.mjs): the forced cells as the released guide's own fill.sh prints them over the translation 6135e6b16d3f8c21… (all of the seat's roots in one cut). By AI agents, Wed Nov 11 2026. No macro, syntax, notation, axiom, sorry.
-/
import Derived.Test.YbulkhvmFmtChecked
import GoSem.Claim
import GoSem.ClaimJoined
import GoSem.ClaimMapViews
import Derived.JoinedTies
import Derived.KernelRfl
namespace Go.Proofs.YbulkhvmFmt
/- THE CELL 'sum', in the pinned program and in every row, IS THE sha256 OF THE DUMP (.gsa) THAT YbulkhvmFmtProg.lean LOADS. Nothing in Lean hashes anything: it is a label: what it is worth is what the hold of that sum in a sandbox is worth. -/
noncomputable def Ybaf.pinned : Pinned := { name := "ybulkhvmfmt", sum := "6135e6b16d3f8c216b7bbdc12175f1cb93a4e2e32bf8bba10b9de770efd6cf57", checked := Ybaf.checked }
namespace Rows
def none {H : Type} : Left H := { results := [], args := [] }

/-- 'chunk.LawS0428BExact': WHATEVER THE INPUT: true; the input reads as it did. -/
def lawS0428BExactSpec : ChangeSpec := { name := "lawS0428BExact", fn := fun _ => fun
  | [d1, d2, d3, d4] => { results := [.lit (.bool true)], args := [d1, d2, d3, d4] }
  | _ => none }
def lawS0428BExactRow : OpenClaim := { program := "ybulkhvmfmt", sum := "6135e6b16d3f8c216b7bbdc12175f1cb93a4e2e32bf8bba10b9de770efd6cf57", func := "example.com/chunkwire/chunkwire/internal/chunk.LawS0428BExact", spec := "lawS0428BExact", stops := ["fmt.errorf"], inPlace := ["fmt.errorf"], named := ["encoding/binary.BigEndian"], apart := false }
/-- NO THEOREM (fmt's text is open here; it may be false): for the released tool's asking of the row's closed facts alone. THE STATEMENT IS 'LawS0428BExactToldSaid' (YbulkhvmFmtCards.lean). -/
def LawS0428BExactFormAsk : Prop := lawS0428BExactRow.holds Ybaf.pinned (OpenSpec.ofChange lawS0428BExactSpec)

/-- ITS FALSE NEIGHBOUR: 'it returns false'. Refute it at one input. -/
def lawS0428BExactWrong : ChangeSpec := { name := "lawS0428BExact", fn := fun _ => fun
  | [d1, d2, d3, d4] => { results := [.lit (.bool false)], args := [d1, d2, d3, d4] }
  | _ => none }
def LawS0428BExactWrongFormAsk : Prop := lawS0428BExactRow.holds Ybaf.pinned (OpenSpec.ofChange lawS0428BExactWrong)

/-- 'chunk.LawS0428BRoundTrip': WHATEVER THE INPUT: true; the input reads as it did. -/
def lawS0428BRoundTripSpec : ChangeSpec := { name := "lawS0428BRoundTrip", fn := fun _ => fun
  | [d1, d2] => { results := [.lit (.bool true)], args := [d1, d2] }
  | _ => none }
def lawS0428BRoundTripRow : OpenClaim := { program := "ybulkhvmfmt", sum := "6135e6b16d3f8c216b7bbdc12175f1cb93a4e2e32bf8bba10b9de770efd6cf57", func := "example.com/chunkwire/chunkwire/internal/chunk.LawS0428BRoundTrip", spec := "lawS0428BRoundTrip", stops := ["fmt.errorf"], inPlace := ["fmt.errorf"], named := ["encoding/binary.BigEndian"], apart := false }
/-- NO THEOREM (fmt's text is open here; it may be false): for the released tool's asking of the row's closed facts alone. THE STATEMENT IS 'LawS0428BRoundTripToldSaid' (YbulkhvmFmtCards.lean). -/
def LawS0428BRoundTripFormAsk : Prop := lawS0428BRoundTripRow.holds Ybaf.pinned (OpenSpec.ofChange lawS0428BRoundTripSpec)

/-- ITS FALSE NEIGHBOUR: 'it returns false'. Refute it at one input. -/
def lawS0428BRoundTripWrong : ChangeSpec := { name := "lawS0428BRoundTrip", fn := fun _ => fun
  | [d1, d2] => { results := [.lit (.bool false)], args := [d1, d2] }
  | _ => none }
def LawS0428BRoundTripWrongFormAsk : Prop := lawS0428BRoundTripRow.holds Ybaf.pinned (OpenSpec.ofChange lawS0428BRoundTripWrong)

end Rows
end Go.Proofs.YbulkhvmFmt
