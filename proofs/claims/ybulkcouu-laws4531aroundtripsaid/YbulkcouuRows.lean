/-
  No cell of these rows narrows 'for every input' (looked for: loops, veiled, ifaces, maps, wideKeys, modest, calm, conditions, laid).
  DERIVED. THE GIVEN ROWS OF THIS SEAT. 2 by the template 'for every input the law returns true; each argument reads behind the call as it read before'; 0 by the template 'total and deterministic' (their statements: YbulkcouuTotals.lean).
  GIVEN WITH THE SEED: the statements are not yours to turn. If you find one false, say at which input.
  Laid BY PROGRAM, IN A SANDBOX (cutbox-rows.mjs): the forced cells as the released guide's own fill.sh prints them over the translation ff3b420ff431afd4… (all of the seat's roots in one cut). By AI agents, Wed Nov 11 2026. No macro, syntax, notation, axiom, sorry.
-/
import Derived.Test.YbulkcouuChecked
import GoSem.Claim
import GoSem.ClaimJoined
import GoSem.ClaimMapViews
import Derived.JoinedTies
import Derived.KernelRfl
namespace Go.Proofs.Ybulkcouu
/- THE CELL 'sum', in the pinned program and in every row, IS THE sha256 OF THE DUMP (.gsa) THAT YbulkcouuProg.lean LOADS. Nothing in Lean hashes anything: it is a label: what it is worth is what the hold of that sum in a sandbox is worth. -/
noncomputable def Yba.pinned : Pinned := { name := "ybulkcouu", sum := "ff3b420ff431afd40131fa6962e85a54ad7d0a0cb817f2654069c698289adb57", checked := Yba.checked }
namespace Rows
def none {H : Type} : Left H := { results := [], args := [] }

/-- 'timetext.LawS4531AExact': WHATEVER THE INPUT: true; the input reads as it did. -/
def lawS4531AExactSpec : ChangeSpec := { name := "lawS4531AExact", fn := fun _ => fun
  | [d1, d2] => { results := [.lit (.bool true)], args := [d1, d2] }
  | _ => none }
def lawS4531AExactRow : OpenClaim := { program := "ybulkcouu", sum := "ff3b420ff431afd40131fa6962e85a54ad7d0a0cb817f2654069c698289adb57", func := "example.com/meridian/meridian/internal/timetext.LawS4531AExact", spec := "lawS4531AExact", apart := false }
def LawS4531AExactSaid : Prop := lawS4531AExactRow.holds Yba.pinned (OpenSpec.ofChange lawS4531AExactSpec)

/-- ITS FALSE NEIGHBOUR: 'it returns false'. Refute it at one input. -/
def lawS4531AExactWrong : ChangeSpec := { name := "lawS4531AExact", fn := fun _ => fun
  | [d1, d2] => { results := [.lit (.bool false)], args := [d1, d2] }
  | _ => none }
def LawS4531AExactWrongFalsely : Prop := lawS4531AExactRow.holds Yba.pinned (OpenSpec.ofChange lawS4531AExactWrong)

/-- 'timetext.LawS4531ARoundTrip': WHATEVER THE INPUT: true; the input reads as it did. -/
def lawS4531ARoundTripSpec : ChangeSpec := { name := "lawS4531ARoundTrip", fn := fun _ => fun
  | [d] => { results := [.lit (.bool true)], args := [d] }
  | _ => none }
def lawS4531ARoundTripRow : OpenClaim := { program := "ybulkcouu", sum := "ff3b420ff431afd40131fa6962e85a54ad7d0a0cb817f2654069c698289adb57", func := "example.com/meridian/meridian/internal/timetext.LawS4531ARoundTrip", spec := "lawS4531ARoundTrip", apart := false }
def LawS4531ARoundTripSaid : Prop := lawS4531ARoundTripRow.holds Yba.pinned (OpenSpec.ofChange lawS4531ARoundTripSpec)

/-- ITS FALSE NEIGHBOUR: 'it returns false'. Refute it at one input. -/
def lawS4531ARoundTripWrong : ChangeSpec := { name := "lawS4531ARoundTrip", fn := fun _ => fun
  | [d] => { results := [.lit (.bool false)], args := [d] }
  | _ => none }
def LawS4531ARoundTripWrongFalsely : Prop := lawS4531ARoundTripRow.holds Yba.pinned (OpenSpec.ofChange lawS4531ARoundTripWrong)

end Rows
end Go.Proofs.Ybulkcouu
