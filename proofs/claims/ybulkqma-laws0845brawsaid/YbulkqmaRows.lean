/-
  No cell of these rows narrows 'for every input' (looked for: loops, veiled, ifaces, maps, wideKeys, modest, calm, conditions, laid).
  DERIVED. THE GIVEN ROWS OF THIS SEAT. 3 by the template 'for every input the law returns true; each argument reads behind the call as it read before'; 0 by the template 'total and deterministic' (their statements: YbulkqmaTotals.lean).
  GIVEN WITH THE SEED: the statements are not yours to turn. If you find one false, say at which input.
  Laid BY PROGRAM, IN A SANDBOX (cutbox-rows.mjs): the forced cells as the released guide's own fill.sh prints them over the translation 4711a116f1c5cb3d… (all of the seat's roots in one cut). By AI agents, Wed Nov 11 2026. No macro, syntax, notation, axiom, sorry.
-/
import Derived.Test.YbulkqmaChecked
import GoSem.Claim
import GoSem.ClaimJoined
import GoSem.ClaimMapViews
import Derived.JoinedTies
import Derived.KernelRfl
namespace Go.Proofs.Ybulkqma
/- THE CELL 'sum', in the pinned program and in every row, IS THE sha256 OF THE DUMP (.gsa) THAT YbulkqmaProg.lean LOADS. Nothing in Lean hashes anything: it is a label: what it is worth is what the hold of that sum in a sandbox is worth. -/
noncomputable def Yba.pinned : Pinned := { name := "ybulkqma", sum := "4711a116f1c5cb3d40ad7eb1de2fd6f69f73dd24f301d3d015eaa94d844c7ef4", checked := Yba.checked }
namespace Rows
def none {H : Type} : Left H := { results := [], args := [] }

/-- 'jsonbody.LawS0845BCloses': WHATEVER THE INPUT: true; the input reads as it did. -/
def lawS0845BClosesSpec : ChangeSpec := { name := "lawS0845BCloses", fn := fun _ => fun
  | [d1, d2, d3, d4] => { results := [.lit (.bool true)], args := [d1, d2, d3, d4] }
  | _ => none }
def lawS0845BClosesRow : OpenClaim := { program := "ybulkqma", sum := "4711a116f1c5cb3d40ad7eb1de2fd6f69f73dd24f301d3d015eaa94d844c7ef4", func := "example.com/countersign/countersign/internal/jsonbody.LawS0845BCloses", spec := "lawS0845BCloses", apart := false }
def LawS0845BClosesSaid : Prop := lawS0845BClosesRow.holds Yba.pinned (OpenSpec.ofChange lawS0845BClosesSpec)

/-- ITS FALSE NEIGHBOUR: 'it returns false'. Refute it at one input. -/
def lawS0845BClosesWrong : ChangeSpec := { name := "lawS0845BCloses", fn := fun _ => fun
  | [d1, d2, d3, d4] => { results := [.lit (.bool false)], args := [d1, d2, d3, d4] }
  | _ => none }
def LawS0845BClosesWrongFalsely : Prop := lawS0845BClosesRow.holds Yba.pinned (OpenSpec.ofChange lawS0845BClosesWrong)

/-- 'jsonbody.LawS0845BRaw': WHATEVER THE INPUT: true; the input reads as it did. -/
def lawS0845BRawSpec : ChangeSpec := { name := "lawS0845BRaw", fn := fun _ => fun
  | [d1, d2, d3] => { results := [.lit (.bool true)], args := [d1, d2, d3] }
  | _ => none }
def lawS0845BRawRow : OpenClaim := { program := "ybulkqma", sum := "4711a116f1c5cb3d40ad7eb1de2fd6f69f73dd24f301d3d015eaa94d844c7ef4", func := "example.com/countersign/countersign/internal/jsonbody.LawS0845BRaw", spec := "lawS0845BRaw", apart := false }
def LawS0845BRawSaid : Prop := lawS0845BRawRow.holds Yba.pinned (OpenSpec.ofChange lawS0845BRawSpec)

/-- ITS FALSE NEIGHBOUR: 'it returns false'. Refute it at one input. -/
def lawS0845BRawWrong : ChangeSpec := { name := "lawS0845BRaw", fn := fun _ => fun
  | [d1, d2, d3] => { results := [.lit (.bool false)], args := [d1, d2, d3] }
  | _ => none }
def LawS0845BRawWrongFalsely : Prop := lawS0845BRawRow.holds Yba.pinned (OpenSpec.ofChange lawS0845BRawWrong)

/-- 'jsonbody.LawS0845CSpill': WHATEVER THE INPUT: true; the input reads as it did. -/
def lawS0845CSpillSpec : ChangeSpec := { name := "lawS0845CSpill", fn := fun _ => fun
  | [d1, d2, d3, d4] => { results := [.lit (.bool true)], args := [d1, d2, d3, d4] }
  | _ => none }
def lawS0845CSpillRow : OpenClaim := { program := "ybulkqma", sum := "4711a116f1c5cb3d40ad7eb1de2fd6f69f73dd24f301d3d015eaa94d844c7ef4", func := "example.com/countersign/countersign/internal/jsonbody.LawS0845CSpill", spec := "lawS0845CSpill", apart := false }
def LawS0845CSpillSaid : Prop := lawS0845CSpillRow.holds Yba.pinned (OpenSpec.ofChange lawS0845CSpillSpec)

/-- ITS FALSE NEIGHBOUR: 'it returns false'. Refute it at one input. -/
def lawS0845CSpillWrong : ChangeSpec := { name := "lawS0845CSpill", fn := fun _ => fun
  | [d1, d2, d3, d4] => { results := [.lit (.bool false)], args := [d1, d2, d3, d4] }
  | _ => none }
def LawS0845CSpillWrongFalsely : Prop := lawS0845CSpillRow.holds Yba.pinned (OpenSpec.ofChange lawS0845CSpillWrong)

end Rows
end Go.Proofs.Ybulkqma
