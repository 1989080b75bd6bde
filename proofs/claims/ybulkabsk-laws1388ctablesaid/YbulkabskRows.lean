/-
  No cell of these rows narrows 'for every input' (looked for: loops, veiled, ifaces, maps, wideKeys, modest, calm, conditions, laid).
  DERIVED. THE GIVEN ROWS OF THIS SEAT. 2 by the template 'for every input the law returns true; each argument reads behind the call as it read before'; 0 by the template 'total and deterministic' (their statements: YbulkabskTotals.lean).
  GIVEN WITH THE SEED: the statements are not yours to turn. If you find one false, say at which input.
  Laid BY PROGRAM, IN A SANDBOX (cutbox-rows.mjs): the forced cells as the released guide's own fill.sh prints them over the translation 50c4bd8fb2ee4b95… (all of the seat's roots in one cut). By AI agents, Wed Nov 11 2026. No macro, syntax, notation, axiom, sorry.
-/
import Derived.Test.YbulkabskChecked
import GoSem.Claim
import GoSem.ClaimJoined
import GoSem.ClaimMapViews
import Derived.JoinedTies
import Derived.KernelRfl
namespace Go.Proofs.Ybulkabsk
/- THE CELL 'sum', in the pinned program and in every row, IS THE sha256 OF THE DUMP (.gsa) THAT YbulkabskProg.lean LOADS. Nothing in Lean hashes anything: it is a label: what it is worth is what the hold of that sum in a sandbox is worth. -/
noncomputable def Yba.pinned : Pinned := { name := "ybulkabsk", sum := "50c4bd8fb2ee4b953b91b3527d5e36f1e7feeb4fe5a4717eeffb36f74064520b", checked := Yba.checked }
namespace Rows
def none {H : Type} : Left H := { results := [], args := [] }

/-- 'stanzary.LawS1388CFirst': WHATEVER THE INPUT: true; the input reads as it did. -/
def lawS1388CFirstSpec : ChangeSpec := { name := "lawS1388CFirst", fn := fun _ => fun
  | [d1, d2, d3] => { results := [.lit (.bool true)], args := [d1, d2, d3] }
  | _ => none }
def lawS1388CFirstRow : OpenClaim := { program := "ybulkabsk", sum := "50c4bd8fb2ee4b953b91b3527d5e36f1e7feeb4fe5a4717eeffb36f74064520b", func := "example.com/stanzary/stanzary.LawS1388CFirst", spec := "lawS1388CFirst", named := ["encoding/binary.LittleEndian"], apart := false }
def LawS1388CFirstSaid : Prop := lawS1388CFirstRow.holds Yba.pinned (OpenSpec.ofChange lawS1388CFirstSpec)

/-- ITS FALSE NEIGHBOUR: 'it returns false'. Refute it at one input. -/
def lawS1388CFirstWrong : ChangeSpec := { name := "lawS1388CFirst", fn := fun _ => fun
  | [d1, d2, d3] => { results := [.lit (.bool false)], args := [d1, d2, d3] }
  | _ => none }
def LawS1388CFirstWrongFalsely : Prop := lawS1388CFirstRow.holds Yba.pinned (OpenSpec.ofChange lawS1388CFirstWrong)

/-- 'stanzary.LawS1388CTable': WHATEVER THE INPUT: true; the input reads as it did. -/
def lawS1388CTableSpec : ChangeSpec := { name := "lawS1388CTable", fn := fun _ => fun
  | [d1, d2] => { results := [.lit (.bool true)], args := [d1, d2] }
  | _ => none }
def lawS1388CTableRow : OpenClaim := { program := "ybulkabsk", sum := "50c4bd8fb2ee4b953b91b3527d5e36f1e7feeb4fe5a4717eeffb36f74064520b", func := "example.com/stanzary/stanzary.LawS1388CTable", spec := "lawS1388CTable", named := ["encoding/binary.LittleEndian"], apart := false }
def LawS1388CTableSaid : Prop := lawS1388CTableRow.holds Yba.pinned (OpenSpec.ofChange lawS1388CTableSpec)

/-- ITS FALSE NEIGHBOUR: 'it returns false'. Refute it at one input. -/
def lawS1388CTableWrong : ChangeSpec := { name := "lawS1388CTable", fn := fun _ => fun
  | [d1, d2] => { results := [.lit (.bool false)], args := [d1, d2] }
  | _ => none }
def LawS1388CTableWrongFalsely : Prop := lawS1388CTableRow.holds Yba.pinned (OpenSpec.ofChange lawS1388CTableWrong)

end Rows
end Go.Proofs.Ybulkabsk
