/-
  No cell of these rows narrows 'for every input' (looked for: loops, veiled, ifaces, maps, wideKeys, modest, calm, conditions, laid).
  DERIVED. THE GIVEN ROWS OF THIS SEAT. 2 by the template 'for every input the law returns true; each argument reads behind the call as it read before'; 0 by the template 'total and deterministic' (their statements: YbulkhuyTotals.lean).
  GIVEN WITH THE SEED: the statements are not yours to turn. If you find one false, say at which input.
  Laid BY PROGRAM, IN A SANDBOX (cutbox-rows.mjs): the forced cells as the released guide's own fill.sh prints them over the translation aea7a544c51d8f8a… (all of the seat's roots in one cut). By AI agents, Wed Nov 11 2026. No macro, syntax, notation, axiom, sorry.
-/
import Derived.Test.YbulkhuyChecked
import GoSem.Claim
import GoSem.ClaimJoined
import GoSem.ClaimMapViews
import Derived.JoinedTies
import Derived.KernelRfl
namespace Go.Proofs.Ybulkhuy
/- THE CELL 'sum', in the pinned program and in every row, IS THE sha256 OF THE DUMP (.gsa) THAT YbulkhuyProg.lean LOADS. Nothing in Lean hashes anything: it is a label: what it is worth is what the hold of that sum in a sandbox is worth. -/
noncomputable def Yba.pinned : Pinned := { name := "ybulkhuy", sum := "aea7a544c51d8f8a16b98f40e3210eebb658bf4fac3afcebf494f0f330d5a011", checked := Yba.checked }
namespace Rows
def none {H : Type} : Left H := { results := [], args := [] }

/-- 'types.LawS0427AStruct': WHATEVER THE INPUT: true; the input reads as it did. -/
def lawS0427AStructSpec : ChangeSpec := { name := "lawS0427AStruct", fn := fun _ => fun
  | [d1, d2, d3, d4, d5] => { results := [.lit (.bool true)], args := [d1, d2, d3, d4, d5] }
  | _ => none }
def lawS0427AStructRow : OpenClaim := { program := "ybulkhuy", sum := "aea7a544c51d8f8a16b98f40e3210eebb658bf4fac3afcebf494f0f330d5a011", func := "example.com/ptarmigan/ptarmigan/internal/types.LawS0427AStruct", spec := "lawS0427AStruct", inPlace := ["internal/reflectlite.ValueOf", "internal/reflectlite.Swapper", "(internal/reflectlite.Value).Len"], unfollowed := true, recurses := true, apart := false }
def LawS0427AStructSaid : Prop := lawS0427AStructRow.holds Yba.pinned (OpenSpec.ofChange lawS0427AStructSpec)

/-- ITS FALSE NEIGHBOUR: 'it returns false'. Refute it at one input. -/
def lawS0427AStructWrong : ChangeSpec := { name := "lawS0427AStruct", fn := fun _ => fun
  | [d1, d2, d3, d4, d5] => { results := [.lit (.bool false)], args := [d1, d2, d3, d4, d5] }
  | _ => none }
def LawS0427AStructWrongFalsely : Prop := lawS0427AStructRow.holds Yba.pinned (OpenSpec.ofChange lawS0427AStructWrong)

/-- 'types.LawS0427AIface': WHATEVER THE INPUT: true; the input reads as it did. -/
def lawS0427AIfaceSpec : ChangeSpec := { name := "lawS0427AIface", fn := fun _ => fun
  | [d1, d2, d3, d4] => { results := [.lit (.bool true)], args := [d1, d2, d3, d4] }
  | _ => none }
def lawS0427AIfaceRow : OpenClaim := { program := "ybulkhuy", sum := "aea7a544c51d8f8a16b98f40e3210eebb658bf4fac3afcebf494f0f330d5a011", func := "example.com/ptarmigan/ptarmigan/internal/types.LawS0427AIface", spec := "lawS0427AIface", inPlace := ["internal/reflectlite.ValueOf", "internal/reflectlite.Swapper", "(internal/reflectlite.Value).Len"], unfollowed := true, recurses := true, apart := false }
def LawS0427AIfaceSaid : Prop := lawS0427AIfaceRow.holds Yba.pinned (OpenSpec.ofChange lawS0427AIfaceSpec)

/-- ITS FALSE NEIGHBOUR: 'it returns false'. Refute it at one input. -/
def lawS0427AIfaceWrong : ChangeSpec := { name := "lawS0427AIface", fn := fun _ => fun
  | [d1, d2, d3, d4] => { results := [.lit (.bool false)], args := [d1, d2, d3, d4] }
  | _ => none }
def LawS0427AIfaceWrongFalsely : Prop := lawS0427AIfaceRow.holds Yba.pinned (OpenSpec.ofChange lawS0427AIfaceWrong)

end Rows
end Go.Proofs.Ybulkhuy
