/-
  No cell of these rows narrows 'for every input' (looked for: loops, veiled, ifaces, maps, wideKeys, modest, calm, conditions, laid).
  DERIVED. THE GIVEN ROWS OF THIS SEAT. 4 by the template 'for every input the law returns true; each argument reads behind the call as it read before'; 0 by the template 'total and deterministic' (their statements: YbulkabsyTotals.lean).
  GIVEN WITH THE SEED: the statements are not yours to turn. If you find one false, say at which input.
  Laid BY PROGRAM, IN A SANDBOX (cutbox-rows.mjs): the forced cells as the released guide's own fill.sh prints them over the translation 5e0b7158edbaab68… (all of the seat's roots in one cut). By AI agents, Wed Nov 11 2026. No macro, syntax, notation, axiom, sorry.
-/
import Derived.Test.YbulkabsyChecked
import GoSem.Claim
import GoSem.ClaimJoined
import GoSem.ClaimMapViews
import Derived.JoinedTies
import Derived.KernelRfl
namespace Go.Proofs.Ybulkabsy
/- THE CELL 'sum', in the pinned program and in every row, IS THE sha256 OF THE DUMP (.gsa) THAT YbulkabsyProg.lean LOADS. Nothing in Lean hashes anything: it is a label: what it is worth is what the hold of that sum in a sandbox is worth. -/
noncomputable def Yba.pinned : Pinned := { name := "ybulkabsy", sum := "5e0b7158edbaab6867bce8dd3f594c509308eacb26ad4a1efefba2fdb9bd7916", checked := Yba.checked }
namespace Rows
def none {H : Type} : Left H := { results := [], args := [] }

/-- 'stipple.LawS1389BCount': WHATEVER THE INPUT: true; the input reads as it did. -/
def lawS1389BCountSpec : ChangeSpec := { name := "lawS1389BCount", fn := fun _ => fun
  | [d1, d2] => { results := [.lit (.bool true)], args := [d1, d2] }
  | _ => none }
def lawS1389BCountRow : OpenClaim := { program := "ybulkabsy", sum := "5e0b7158edbaab6867bce8dd3f594c509308eacb26ad4a1efefba2fdb9bd7916", func := "example.com/stipple/stipple.LawS1389BCount", spec := "lawS1389BCount", apart := false }
def LawS1389BCountSaid : Prop := lawS1389BCountRow.holds Yba.pinned (OpenSpec.ofChange lawS1389BCountSpec)

/-- ITS FALSE NEIGHBOUR: 'it returns false'. Refute it at one input. -/
def lawS1389BCountWrong : ChangeSpec := { name := "lawS1389BCount", fn := fun _ => fun
  | [d1, d2] => { results := [.lit (.bool false)], args := [d1, d2] }
  | _ => none }
def LawS1389BCountWrongFalsely : Prop := lawS1389BCountRow.holds Yba.pinned (OpenSpec.ofChange lawS1389BCountWrong)

/-- 'stipple.LawS1389BValues': WHATEVER THE INPUT: true; the input reads as it did. -/
def lawS1389BValuesSpec : ChangeSpec := { name := "lawS1389BValues", fn := fun _ => fun
  | [d] => { results := [.lit (.bool true)], args := [d] }
  | _ => none }
def lawS1389BValuesRow : OpenClaim := { program := "ybulkabsy", sum := "5e0b7158edbaab6867bce8dd3f594c509308eacb26ad4a1efefba2fdb9bd7916", func := "example.com/stipple/stipple.LawS1389BValues", spec := "lawS1389BValues", recurses := true, apart := false }
def LawS1389BValuesSaid : Prop := lawS1389BValuesRow.holds Yba.pinned (OpenSpec.ofChange lawS1389BValuesSpec)

/-- ITS FALSE NEIGHBOUR: 'it returns false'. Refute it at one input. -/
def lawS1389BValuesWrong : ChangeSpec := { name := "lawS1389BValues", fn := fun _ => fun
  | [d] => { results := [.lit (.bool false)], args := [d] }
  | _ => none }
def LawS1389BValuesWrongFalsely : Prop := lawS1389BValuesRow.holds Yba.pinned (OpenSpec.ofChange lawS1389BValuesWrong)

/-- 'stipple.LawS1389CIntFirst': WHATEVER THE INPUT: true; the input reads as it did. -/
def lawS1389CIntFirstSpec : ChangeSpec := { name := "lawS1389CIntFirst", fn := fun _ => fun
  | [d1, d2, d3, d4] => { results := [.lit (.bool true)], args := [d1, d2, d3, d4] }
  | _ => none }
def lawS1389CIntFirstRow : OpenClaim := { program := "ybulkabsy", sum := "5e0b7158edbaab6867bce8dd3f594c509308eacb26ad4a1efefba2fdb9bd7916", func := "example.com/stipple/stipple.LawS1389CIntFirst", spec := "lawS1389CIntFirst", apart := false }
def LawS1389CIntFirstSaid : Prop := lawS1389CIntFirstRow.holds Yba.pinned (OpenSpec.ofChange lawS1389CIntFirstSpec)

/-- ITS FALSE NEIGHBOUR: 'it returns false'. Refute it at one input. -/
def lawS1389CIntFirstWrong : ChangeSpec := { name := "lawS1389CIntFirst", fn := fun _ => fun
  | [d1, d2, d3, d4] => { results := [.lit (.bool false)], args := [d1, d2, d3, d4] }
  | _ => none }
def LawS1389CIntFirstWrongFalsely : Prop := lawS1389CIntFirstRow.holds Yba.pinned (OpenSpec.ofChange lawS1389CIntFirstWrong)

/-- 'stipple.LawS1389CU16First': WHATEVER THE INPUT: true; the input reads as it did. -/
def lawS1389CU16FirstSpec : ChangeSpec := { name := "lawS1389CU16First", fn := fun _ => fun
  | [d1, d2, d3, d4] => { results := [.lit (.bool true)], args := [d1, d2, d3, d4] }
  | _ => none }
def lawS1389CU16FirstRow : OpenClaim := { program := "ybulkabsy", sum := "5e0b7158edbaab6867bce8dd3f594c509308eacb26ad4a1efefba2fdb9bd7916", func := "example.com/stipple/stipple.LawS1389CU16First", spec := "lawS1389CU16First", apart := false }
def LawS1389CU16FirstSaid : Prop := lawS1389CU16FirstRow.holds Yba.pinned (OpenSpec.ofChange lawS1389CU16FirstSpec)

/-- ITS FALSE NEIGHBOUR: 'it returns false'. Refute it at one input. -/
def lawS1389CU16FirstWrong : ChangeSpec := { name := "lawS1389CU16First", fn := fun _ => fun
  | [d1, d2, d3, d4] => { results := [.lit (.bool false)], args := [d1, d2, d3, d4] }
  | _ => none }
def LawS1389CU16FirstWrongFalsely : Prop := lawS1389CU16FirstRow.holds Yba.pinned (OpenSpec.ofChange lawS1389CU16FirstWrong)

end Rows
end Go.Proofs.Ybulkabsy
