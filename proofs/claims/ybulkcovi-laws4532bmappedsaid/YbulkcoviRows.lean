/-
  No cell of these rows narrows 'for every input' (looked for: loops, veiled, ifaces, maps, wideKeys, modest, calm, conditions, laid).
  DERIVED. THE GIVEN ROWS OF THIS SEAT. 2 by the template 'for every input the law returns true; each argument reads behind the call as it read before'; 0 by the template 'total and deterministic' (their statements: YbulkcoviTotals.lean).
  GIVEN WITH THE SEED: the statements are not yours to turn. If you find one false, say at which input.
  Laid BY PROGRAM, IN A SANDBOX (cutbox-rows.mjs): the forced cells as the released guide's own fill.sh prints them over the translation 343350dc0f3ea908… (all of the seat's roots in one cut). By AI agents, Wed Nov 11 2026. No macro, syntax, notation, axiom, sorry.
-/
import Derived.Test.YbulkcoviChecked
import GoSem.Claim
import GoSem.ClaimJoined
import GoSem.ClaimMapViews
import Derived.JoinedTies
import Derived.KernelRfl
namespace Go.Proofs.Ybulkcovi
/- THE CELL 'sum', in the pinned program and in every row, IS THE sha256 OF THE DUMP (.gsa) THAT YbulkcoviProg.lean LOADS. Nothing in Lean hashes anything: it is a label: what it is worth is what the hold of that sum in a sandbox is worth. -/
noncomputable def Yba.pinned : Pinned := { name := "ybulkcovi", sum := "343350dc0f3ea90831c78c2177cd01566ad0dce708c5e74206059d9fad11caa3", checked := Yba.checked }
namespace Rows
def none {H : Type} : Left H := { results := [], args := [] }

/-- 'effect.LawS4532BExists': WHATEVER THE INPUT: true; the input reads as it did. -/
def lawS4532BExistsSpec : ChangeSpec := { name := "lawS4532BExists", fn := fun _ => fun
  | [d] => { results := [.lit (.bool true)], args := [d] }
  | _ => none }
def lawS4532BExistsRow : OpenClaim := { program := "ybulkcovi", sum := "343350dc0f3ea90831c78c2177cd01566ad0dce708c5e74206059d9fad11caa3", func := "example.com/enforce/enforce/internal/effect.LawS4532BExists", spec := "lawS4532BExists", unfollowed := true, recurses := true, apart := false }
def LawS4532BExistsSaid : Prop := lawS4532BExistsRow.holds Yba.pinned (OpenSpec.ofChange lawS4532BExistsSpec)

/-- ITS FALSE NEIGHBOUR: 'it returns false'. Refute it at one input. -/
def lawS4532BExistsWrong : ChangeSpec := { name := "lawS4532BExists", fn := fun _ => fun
  | [d] => { results := [.lit (.bool false)], args := [d] }
  | _ => none }
def LawS4532BExistsWrongFalsely : Prop := lawS4532BExistsRow.holds Yba.pinned (OpenSpec.ofChange lawS4532BExistsWrong)

/-- 'effect.LawS4532BMapped': WHATEVER THE INPUT: true; the input reads as it did. -/
def lawS4532BMappedSpec : ChangeSpec := { name := "lawS4532BMapped", fn := fun _ => fun
  | [d] => { results := [.lit (.bool true)], args := [d] }
  | _ => none }
def lawS4532BMappedRow : OpenClaim := { program := "ybulkcovi", sum := "343350dc0f3ea90831c78c2177cd01566ad0dce708c5e74206059d9fad11caa3", func := "example.com/enforce/enforce/internal/effect.LawS4532BMapped", spec := "lawS4532BMapped", unfollowed := true, recurses := true, apart := false }
def LawS4532BMappedSaid : Prop := lawS4532BMappedRow.holds Yba.pinned (OpenSpec.ofChange lawS4532BMappedSpec)

/-- ITS FALSE NEIGHBOUR: 'it returns false'. Refute it at one input. -/
def lawS4532BMappedWrong : ChangeSpec := { name := "lawS4532BMapped", fn := fun _ => fun
  | [d] => { results := [.lit (.bool false)], args := [d] }
  | _ => none }
def LawS4532BMappedWrongFalsely : Prop := lawS4532BMappedRow.holds Yba.pinned (OpenSpec.ofChange lawS4532BMappedWrong)

end Rows
end Go.Proofs.Ybulkcovi
