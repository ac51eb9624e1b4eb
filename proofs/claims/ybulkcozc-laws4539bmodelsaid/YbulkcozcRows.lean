/-
  No cell of these rows narrows 'for every input' (looked for: loops, veiled, ifaces, maps, wideKeys, modest, calm, conditions, laid).
  DERIVED. THE GIVEN ROWS OF THIS SEAT. 2 by the template 'for every input the law returns true; each argument reads behind the call as it read before'; 0 by the template 'total and deterministic' (their statements: YbulkcozcTotals.lean).
  GIVEN WITH THE SEED: the statements are not yours to turn. If you find one false, say at which input.
  Laid BY PROGRAM, IN A SANDBOX (cutbox-rows.mjs): the forced cells as the released guide's own fill.sh prints them over the translation 96a8acf15c130198… (all of the seat's roots in one cut). By AI agents, Wed Nov 11 2026. No macro, syntax, notation, axiom, sorry.
-/
import Derived.Test.YbulkcozcChecked
import GoSem.Claim
import GoSem.ClaimJoined
import GoSem.ClaimMapViews
import Derived.JoinedTies
import Derived.KernelRfl
namespace Go.Proofs.Ybulkcozc
/- THE CELL 'sum', in the pinned program and in every row, IS THE sha256 OF THE DUMP (.gsa) THAT YbulkcozcProg.lean LOADS. Nothing in Lean hashes anything: it is a label: what it is worth is what the hold of that sum in a sandbox is worth. -/
noncomputable def Yba.pinned : Pinned := { name := "ybulkcozc", sum := "96a8acf15c13019801adca74ba92748e50abe4e1a9a938c5adf33876078c6599", checked := Yba.checked }
namespace Rows
def none {H : Type} : Left H := { results := [], args := [] }

/-- 'explore.LawS4539BModel': WHATEVER THE INPUT: true; the input reads as it did. -/
def lawS4539BModelSpec : ChangeSpec := { name := "lawS4539BModel", fn := fun _ => fun
  | [d] => { results := [.lit (.bool true)], args := [d] }
  | _ => none }
def lawS4539BModelRow : OpenClaim := { program := "ybulkcozc", sum := "96a8acf15c13019801adca74ba92748e50abe4e1a9a938c5adf33876078c6599", func := "example.com/sluice/sluice/internal/explore.LawS4539BModel", spec := "lawS4539BModel", apart := false }
def LawS4539BModelSaid : Prop := lawS4539BModelRow.holds Yba.pinned (OpenSpec.ofChange lawS4539BModelSpec)

/-- ITS FALSE NEIGHBOUR: 'it returns false'. Refute it at one input. -/
def lawS4539BModelWrong : ChangeSpec := { name := "lawS4539BModel", fn := fun _ => fun
  | [d] => { results := [.lit (.bool false)], args := [d] }
  | _ => none }
def LawS4539BModelWrongFalsely : Prop := lawS4539BModelRow.holds Yba.pinned (OpenSpec.ofChange lawS4539BModelWrong)

/-- 'explore.LawS4539BPair': WHATEVER THE INPUT: true; the input reads as it did. -/
def lawS4539BPairSpec : ChangeSpec := { name := "lawS4539BPair", fn := fun _ => fun
  | [d1, d2, d3, d4] => { results := [.lit (.bool true)], args := [d1, d2, d3, d4] }
  | _ => none }
def lawS4539BPairRow : OpenClaim := { program := "ybulkcozc", sum := "96a8acf15c13019801adca74ba92748e50abe4e1a9a938c5adf33876078c6599", func := "example.com/sluice/sluice/internal/explore.LawS4539BPair", spec := "lawS4539BPair", apart := false }
def LawS4539BPairSaid : Prop := lawS4539BPairRow.holds Yba.pinned (OpenSpec.ofChange lawS4539BPairSpec)

/-- ITS FALSE NEIGHBOUR: 'it returns false'. Refute it at one input. -/
def lawS4539BPairWrong : ChangeSpec := { name := "lawS4539BPair", fn := fun _ => fun
  | [d1, d2, d3, d4] => { results := [.lit (.bool false)], args := [d1, d2, d3, d4] }
  | _ => none }
def LawS4539BPairWrongFalsely : Prop := lawS4539BPairRow.holds Yba.pinned (OpenSpec.ofChange lawS4539BPairWrong)

end Rows
end Go.Proofs.Ybulkcozc
