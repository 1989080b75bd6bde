/-
  No cell of these rows narrows 'for every input' (looked for: loops, veiled, ifaces, maps, wideKeys, modest, calm, conditions, laid).
  DERIVED. THE GIVEN ROWS OF THIS SEAT. 2 by the template 'for every input the law returns true; each argument reads behind the call as it read before'; 0 by the template 'total and deterministic' (their statements: YbulkabpeTotals.lean).
  GIVEN WITH THE SEED: the statements are not yours to turn. If you find one false, say at which input.
  Laid BY PROGRAM, IN A SANDBOX (cutbox-rows.mjs): the forced cells as the released guide's own fill.sh prints them over the translation bd59fe9b3b871d4f… (all of the seat's roots in one cut). By AI agents, Wed Nov 11 2026. No macro, syntax, notation, axiom, sorry.
-/
import Derived.Test.YbulkabpeChecked
import GoSem.Claim
import GoSem.ClaimJoined
import GoSem.ClaimMapViews
import Derived.JoinedTies
import Derived.KernelRfl
namespace Go.Proofs.Ybulkabpe
/- THE CELL 'sum', in the pinned program and in every row, IS THE sha256 OF THE DUMP (.gsa) THAT YbulkabpeProg.lean LOADS. Nothing in Lean hashes anything: it is a label: what it is worth is what the hold of that sum in a sandbox is worth. -/
noncomputable def Yba.pinned : Pinned := { name := "ybulkabpe", sum := "bd59fe9b3b871d4fe8239b30026a540b30151ed956142037265bd33919812c63", checked := Yba.checked }
namespace Rows
def none {H : Type} : Left H := { results := [], args := [] }

/-- 'ber.LawS1382BWellFormed': WHATEVER THE INPUT: true; the input reads as it did. -/
def lawS1382BWellFormedSpec : ChangeSpec := { name := "lawS1382BWellFormed", fn := fun _ => fun
  | [d] => { results := [.lit (.bool true)], args := [d] }
  | _ => none }
def lawS1382BWellFormedRow : OpenClaim := { program := "ybulkabpe", sum := "bd59fe9b3b871d4fe8239b30026a540b30151ed956142037265bd33919812c63", func := "example.com/transom/transom/ber.LawS1382BWellFormed", spec := "lawS1382BWellFormed", apart := false }
def LawS1382BWellFormedSaid : Prop := lawS1382BWellFormedRow.holds Yba.pinned (OpenSpec.ofChange lawS1382BWellFormedSpec)

/-- ITS FALSE NEIGHBOUR: 'it returns false'. Refute it at one input. -/
def lawS1382BWellFormedWrong : ChangeSpec := { name := "lawS1382BWellFormed", fn := fun _ => fun
  | [d] => { results := [.lit (.bool false)], args := [d] }
  | _ => none }
def LawS1382BWellFormedWrongFalsely : Prop := lawS1382BWellFormedRow.holds Yba.pinned (OpenSpec.ofChange lawS1382BWellFormedWrong)

/-- 'ber.LawS1382BRaw': WHATEVER THE INPUT: true; the input reads as it did. -/
def lawS1382BRawSpec : ChangeSpec := { name := "lawS1382BRaw", fn := fun _ => fun
  | [d] => { results := [.lit (.bool true)], args := [d] }
  | _ => none }
def lawS1382BRawRow : OpenClaim := { program := "ybulkabpe", sum := "bd59fe9b3b871d4fe8239b30026a540b30151ed956142037265bd33919812c63", func := "example.com/transom/transom/ber.LawS1382BRaw", spec := "lawS1382BRaw", apart := false }
def LawS1382BRawSaid : Prop := lawS1382BRawRow.holds Yba.pinned (OpenSpec.ofChange lawS1382BRawSpec)

/-- ITS FALSE NEIGHBOUR: 'it returns false'. Refute it at one input. -/
def lawS1382BRawWrong : ChangeSpec := { name := "lawS1382BRaw", fn := fun _ => fun
  | [d] => { results := [.lit (.bool false)], args := [d] }
  | _ => none }
def LawS1382BRawWrongFalsely : Prop := lawS1382BRawRow.holds Yba.pinned (OpenSpec.ofChange lawS1382BRawWrong)

end Rows
end Go.Proofs.Ybulkabpe
