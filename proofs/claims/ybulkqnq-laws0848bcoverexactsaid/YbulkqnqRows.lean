/-
  No cell of these rows narrows 'for every input' (looked for: loops, veiled, ifaces, maps, wideKeys, modest, calm, conditions, laid).
  DERIVED. THE GIVEN ROWS OF THIS SEAT. 1 by the template 'for every input the law returns true; each argument reads behind the call as it read before'; 0 by the template 'total and deterministic' (their statements: YbulkqnqTotals.lean).
  GIVEN WITH THE SEED: the statements are not yours to turn. If you find one false, say at which input.
  Laid BY PROGRAM, IN A SANDBOX (cutbox-rows.mjs): the forced cells as the released guide's own fill.sh prints them over the translation 86a208aedbd2c2e3… (all of the seat's roots in one cut). By AI agents, Wed Nov 11 2026. No macro, syntax, notation, axiom, sorry.
-/
import Derived.Test.YbulkqnqChecked
import GoSem.Claim
import GoSem.ClaimJoined
import GoSem.ClaimMapViews
import Derived.JoinedTies
import Derived.KernelRfl
namespace Go.Proofs.Ybulkqnq
/- THE CELL 'sum', in the pinned program and in every row, IS THE sha256 OF THE DUMP (.gsa) THAT YbulkqnqProg.lean LOADS. Nothing in Lean hashes anything: it is a label: what it is worth is what the hold of that sum in a sandbox is worth. -/
noncomputable def Yba.pinned : Pinned := { name := "ybulkqnq", sum := "86a208aedbd2c2e3d13549f25ec4951719181d83d8d2bd85423dc199b1d2be78", checked := Yba.checked }
namespace Rows
def none {H : Type} : Left H := { results := [], args := [] }

/-- 'rules-to-rulings.LawS0848BCoverExact': WHATEVER THE INPUT: true; the input reads as it did. -/
def lawS0848BCoverExactSpec : ChangeSpec := { name := "lawS0848BCoverExact", fn := fun _ => fun
  | [d1, d2] => { results := [.lit (.bool true)], args := [d1, d2] }
  | _ => none }
def lawS0848BCoverExactRow : OpenClaim := { program := "ybulkqnq", sum := "86a208aedbd2c2e3d13549f25ec4951719181d83d8d2bd85423dc199b1d2be78", func := "example.com/rules-to-rulings/rules-to-rulings.LawS0848BCoverExact", spec := "lawS0848BCoverExact", unfollowed := true, recurses := true, apart := false }
def LawS0848BCoverExactSaid : Prop := lawS0848BCoverExactRow.holds Yba.pinned (OpenSpec.ofChange lawS0848BCoverExactSpec)

/-- ITS FALSE NEIGHBOUR: 'it returns false'. Refute it at one input. -/
def lawS0848BCoverExactWrong : ChangeSpec := { name := "lawS0848BCoverExact", fn := fun _ => fun
  | [d1, d2] => { results := [.lit (.bool false)], args := [d1, d2] }
  | _ => none }
def LawS0848BCoverExactWrongFalsely : Prop := lawS0848BCoverExactRow.holds Yba.pinned (OpenSpec.ofChange lawS0848BCoverExactWrong)

end Rows
end Go.Proofs.Ybulkqnq
