/-
  No cell of these rows narrows 'for every input' (looked for: loops, veiled, ifaces, maps, wideKeys, modest, calm, conditions, laid).
  DERIVED. THE GIVEN ROWS OF THIS SEAT. 2 by the template 'for every input the law returns true; each argument reads behind the call as it read before'; 0 by the template 'total and deterministic' (their statements: YbulkcoteTotals.lean).
  GIVEN WITH THE SEED: the statements are not yours to turn. If you find one false, say at which input.
  Laid BY PROGRAM, IN A SANDBOX (cutbox-rows.mjs): the forced cells as the released guide's own fill.sh prints them over the translation 01872acdf1992cf2… (all of the seat's roots in one cut). By AI agents, Wed Nov 11 2026. No macro, syntax, notation, axiom, sorry.
-/
import Derived.Test.YbulkcoteChecked
import GoSem.Claim
import GoSem.ClaimJoined
import GoSem.ClaimMapViews
import Derived.JoinedTies
import Derived.KernelRfl
namespace Go.Proofs.Ybulkcote
/- THE CELL 'sum', in the pinned program and in every row, IS THE sha256 OF THE DUMP (.gsa) THAT YbulkcoteProg.lean LOADS. Nothing in Lean hashes anything: it is a label: what it is worth is what the hold of that sum in a sandbox is worth. -/
noncomputable def Yba.pinned : Pinned := { name := "ybulkcote", sum := "01872acdf1992cf21dc7e078995e660590e3fe491ffd969ad7a49f7f2537ea20", checked := Yba.checked }
namespace Rows
def none {H : Type} : Left H := { results := [], args := [] }

/-- 'profile.LawS4528BScript': WHATEVER THE INPUT: true; the input reads as it did. -/
def lawS4528BScriptSpec : ChangeSpec := { name := "lawS4528BScript", fn := fun _ => fun
  | [d] => { results := [.lit (.bool true)], args := [d] }
  | _ => none }
def lawS4528BScriptRow : OpenClaim := { program := "ybulkcote", sum := "01872acdf1992cf21dc7e078995e660590e3fe491ffd969ad7a49f7f2537ea20", func := "example.com/keyglyph/keyglyph/profile.LawS4528BScript", spec := "lawS4528BScript", apart := false }
def LawS4528BScriptSaid : Prop := lawS4528BScriptRow.holds Yba.pinned (OpenSpec.ofChange lawS4528BScriptSpec)

/-- ITS FALSE NEIGHBOUR: 'it returns false'. Refute it at one input. -/
def lawS4528BScriptWrong : ChangeSpec := { name := "lawS4528BScript", fn := fun _ => fun
  | [d] => { results := [.lit (.bool false)], args := [d] }
  | _ => none }
def LawS4528BScriptWrongFalsely : Prop := lawS4528BScriptRow.holds Yba.pinned (OpenSpec.ofChange lawS4528BScriptWrong)

/-- 'profile.LawS4528CKept': WHATEVER THE INPUT: true; the input reads as it did. -/
def lawS4528CKeptSpec : ChangeSpec := { name := "lawS4528CKept", fn := fun _ => fun
  | [d1, d2, d3, d4, d5] => { results := [.lit (.bool true)], args := [d1, d2, d3, d4, d5] }
  | _ => none }
def lawS4528CKeptRow : OpenClaim := { program := "ybulkcote", sum := "01872acdf1992cf21dc7e078995e660590e3fe491ffd969ad7a49f7f2537ea20", func := "example.com/keyglyph/keyglyph/profile.LawS4528CKept", spec := "lawS4528CKept", apart := false }
def LawS4528CKeptSaid : Prop := lawS4528CKeptRow.holds Yba.pinned (OpenSpec.ofChange lawS4528CKeptSpec)

/-- ITS FALSE NEIGHBOUR: 'it returns false'. Refute it at one input. -/
def lawS4528CKeptWrong : ChangeSpec := { name := "lawS4528CKept", fn := fun _ => fun
  | [d1, d2, d3, d4, d5] => { results := [.lit (.bool false)], args := [d1, d2, d3, d4, d5] }
  | _ => none }
def LawS4528CKeptWrongFalsely : Prop := lawS4528CKeptRow.holds Yba.pinned (OpenSpec.ofChange lawS4528CKeptWrong)

end Rows
end Go.Proofs.Ybulkcote
