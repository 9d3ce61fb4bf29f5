/-
  No cell of these rows narrows 'for every input' (looked for: loops, veiled, ifaces, maps, wideKeys, modest, calm, conditions, laid).
  DERIVED. THE GIVEN ROWS OF THIS SEAT. 2 by the template 'for every input the law returns true; each argument reads behind the call as it read before'; 0 by the template 'total and deterministic' (their statements: YbulkrpqTotals.lean).
  GIVEN WITH THE SEED: the statements are not yours to turn. If you find one false, say at which input.
  Laid BY PROGRAM, IN A SANDBOX (cutbox-rows.mjs): the forced cells as the released guide's own fill.sh prints them over the translation a6946209cdf1c9f4… (all of the seat's roots in one cut). By AI agents, Wed Nov 11 2026. No macro, syntax, notation, axiom, sorry.
-/
import Derived.Test.YbulkrpqChecked
import GoSem.Claim
import GoSem.ClaimJoined
import GoSem.ClaimMapViews
import Derived.JoinedTies
import Derived.KernelRfl
namespace Go.Proofs.Ybulkrpq
/- THE CELL 'sum', in the pinned program and in every row, IS THE sha256 OF THE DUMP (.gsa) THAT YbulkrpqProg.lean LOADS. Nothing in Lean hashes anything: it is a label: what it is worth is what the hold of that sum in a sandbox is worth. -/
noncomputable def Yba.pinned : Pinned := { name := "ybulkrpq", sum := "a6946209cdf1c9f4bcd6f8399e02734bdb62f588fd3951d7d5ea950251020e0a", checked := Yba.checked }
namespace Rows
def none {H : Type} : Left H := { results := [], args := [] }

/-- 'qcow2.LawS0900AClass': WHATEVER THE INPUT: true; the input reads as it did. -/
def lawS0900AClassSpec : ChangeSpec := { name := "lawS0900AClass", fn := fun _ => fun
  | [d1, d2, d3, d4, d5, d6] => { results := [.lit (.bool true)], args := [d1, d2, d3, d4, d5, d6] }
  | _ => none }
def lawS0900AClassRow : OpenClaim := { program := "ybulkrpq", sum := "a6946209cdf1c9f4bcd6f8399e02734bdb62f588fd3951d7d5ea950251020e0a", func := "example.com/driftmap/driftmap/qcow2.LawS0900AClass", spec := "lawS0900AClass", apart := false }
def LawS0900AClassSaid : Prop := lawS0900AClassRow.holds Yba.pinned (OpenSpec.ofChange lawS0900AClassSpec)

/-- ITS FALSE NEIGHBOUR: 'it returns false'. Refute it at one input. -/
def lawS0900AClassWrong : ChangeSpec := { name := "lawS0900AClass", fn := fun _ => fun
  | [d1, d2, d3, d4, d5, d6] => { results := [.lit (.bool false)], args := [d1, d2, d3, d4, d5, d6] }
  | _ => none }
def LawS0900AClassWrongFalsely : Prop := lawS0900AClassRow.holds Yba.pinned (OpenSpec.ofChange lawS0900AClassWrong)

/-- 'qcow2.LawS0900AFieldsIrrelevant': WHATEVER THE INPUT: true; the input reads as it did. -/
def lawS0900AFieldsIrrelevantSpec : ChangeSpec := { name := "lawS0900AFieldsIrrelevant", fn := fun _ => fun
  | [d1, d2, d3, d4, d5, d6, d7, d8, d9, d10] => { results := [.lit (.bool true)], args := [d1, d2, d3, d4, d5, d6, d7, d8, d9, d10] }
  | _ => none }
def lawS0900AFieldsIrrelevantRow : OpenClaim := { program := "ybulkrpq", sum := "a6946209cdf1c9f4bcd6f8399e02734bdb62f588fd3951d7d5ea950251020e0a", func := "example.com/driftmap/driftmap/qcow2.LawS0900AFieldsIrrelevant", spec := "lawS0900AFieldsIrrelevant", apart := false }
def LawS0900AFieldsIrrelevantSaid : Prop := lawS0900AFieldsIrrelevantRow.holds Yba.pinned (OpenSpec.ofChange lawS0900AFieldsIrrelevantSpec)

/-- ITS FALSE NEIGHBOUR: 'it returns false'. Refute it at one input. -/
def lawS0900AFieldsIrrelevantWrong : ChangeSpec := { name := "lawS0900AFieldsIrrelevant", fn := fun _ => fun
  | [d1, d2, d3, d4, d5, d6, d7, d8, d9, d10] => { results := [.lit (.bool false)], args := [d1, d2, d3, d4, d5, d6, d7, d8, d9, d10] }
  | _ => none }
def LawS0900AFieldsIrrelevantWrongFalsely : Prop := lawS0900AFieldsIrrelevantRow.holds Yba.pinned (OpenSpec.ofChange lawS0900AFieldsIrrelevantWrong)

end Rows
end Go.Proofs.Ybulkrpq
