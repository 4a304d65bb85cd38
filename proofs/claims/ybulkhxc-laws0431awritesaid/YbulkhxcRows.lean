/-
  No cell of these rows narrows 'for every input' (looked for: loops, veiled, ifaces, maps, wideKeys, modest, calm, conditions, laid).
  DERIVED. THE GIVEN ROWS OF THIS SEAT. 1 by the template 'for every input the law returns true; each argument reads behind the call as it read before'; 0 by the template 'total and deterministic' (their statements: YbulkhxcTotals.lean).
  GIVEN WITH THE SEED: the statements are not yours to turn. If you find one false, say at which input.
  Laid BY PROGRAM, IN A SANDBOX (cutbox-rows.mjs): the forced cells as the released guide's own fill.sh prints them over the translation 8bd01e23003efd54… (all of the seat's roots in one cut). By AI agents, Wed Nov 11 2026. No macro, syntax, notation, axiom, sorry.
-/
import Derived.Test.YbulkhxcChecked
import GoSem.Claim
import GoSem.ClaimJoined
import GoSem.ClaimMapViews
import Derived.JoinedTies
import Derived.KernelRfl
namespace Go.Proofs.Ybulkhxc
/- THE CELL 'sum', in the pinned program and in every row, IS THE sha256 OF THE DUMP (.gsa) THAT YbulkhxcProg.lean LOADS. Nothing in Lean hashes anything: it is a label: what it is worth is what the hold of that sum in a sandbox is worth. -/
noncomputable def Yba.pinned : Pinned := { name := "ybulkhxc", sum := "8bd01e23003efd5499dd4e056d9c69c7f15aaaba47f1ece2902cec2ea063cfb8", checked := Yba.checked }
namespace Rows
def none {H : Type} : Left H := { results := [], args := [] }

/-- 'anchorlog.LawS0431AWrite': WHATEVER THE INPUT: true; the input reads as it did. -/
def lawS0431AWriteSpec : ChangeSpec := { name := "lawS0431AWrite", fn := fun _ => fun
  | [d1, d2, d3, d4] => { results := [.lit (.bool true)], args := [d1, d2, d3, d4] }
  | _ => none }
def lawS0431AWriteRow : OpenClaim := { program := "ybulkhxc", sum := "8bd01e23003efd5499dd4e056d9c69c7f15aaaba47f1ece2902cec2ea063cfb8", func := "example.com/anchorlog/anchorlog.LawS0431AWrite", spec := "lawS0431AWrite", unfollowed := true, recurses := true, apart := false }
def LawS0431AWriteSaid : Prop := lawS0431AWriteRow.holds Yba.pinned (OpenSpec.ofChange lawS0431AWriteSpec)

/-- ITS FALSE NEIGHBOUR: 'it returns false'. Refute it at one input. -/
def lawS0431AWriteWrong : ChangeSpec := { name := "lawS0431AWrite", fn := fun _ => fun
  | [d1, d2, d3, d4] => { results := [.lit (.bool false)], args := [d1, d2, d3, d4] }
  | _ => none }
def LawS0431AWriteWrongFalsely : Prop := lawS0431AWriteRow.holds Yba.pinned (OpenSpec.ofChange lawS0431AWriteWrong)

end Rows
end Go.Proofs.Ybulkhxc
