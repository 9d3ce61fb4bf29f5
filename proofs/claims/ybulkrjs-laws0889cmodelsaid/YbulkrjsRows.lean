/-
  No cell of these rows narrows 'for every input' (looked for: loops, veiled, ifaces, maps, wideKeys, modest, calm, conditions, laid).
  DERIVED. THE GIVEN ROWS OF THIS SEAT. 1 by the template 'for every input the law returns true; each argument reads behind the call as it read before'; 0 by the template 'total and deterministic' (their statements: YbulkrjsTotals.lean).
  GIVEN WITH THE SEED: the statements are not yours to turn. If you find one false, say at which input.
  Laid BY PROGRAM, IN A SANDBOX (cutbox-rows.mjs): the forced cells as the released guide's own fill.sh prints them over the translation ca5b76230197bc11… (all of the seat's roots in one cut). By AI agents, Wed Nov 11 2026. No macro, syntax, notation, axiom, sorry.
-/
import Derived.Test.YbulkrjsChecked
import GoSem.Claim
import GoSem.ClaimJoined
import GoSem.ClaimMapViews
import Derived.JoinedTies
import Derived.KernelRfl
namespace Go.Proofs.Ybulkrjs
/- THE CELL 'sum', in the pinned program and in every row, IS THE sha256 OF THE DUMP (.gsa) THAT YbulkrjsProg.lean LOADS. Nothing in Lean hashes anything: it is a label: what it is worth is what the hold of that sum in a sandbox is worth. -/
noncomputable def Yba.pinned : Pinned := { name := "ybulkrjs", sum := "ca5b76230197bc11b180efff61733af4d085c4754f822584f7abe9126cc473fc", checked := Yba.checked }
namespace Rows
def none {H : Type} : Left H := { results := [], args := [] }

/-- 'weighbridge.LawS0889CModel': WHATEVER THE INPUT: true; the input reads as it did. -/
def lawS0889CModelSpec : ChangeSpec := { name := "lawS0889CModel", fn := fun _ => fun
  | [d1, d2, d3, d4, d5, d6] => { results := [.lit (.bool true)], args := [d1, d2, d3, d4, d5, d6] }
  | _ => none }
def lawS0889CModelRow : OpenClaim := { program := "ybulkrjs", sum := "ca5b76230197bc11b180efff61733af4d085c4754f822584f7abe9126cc473fc", func := "example.com/weighbridge/weighbridge.LawS0889CModel", spec := "lawS0889CModel", inPlace := ["sync/atomic.StoreInt64", "sync/atomic.LoadInt64"], apart := false }
def LawS0889CModelSaid : Prop := lawS0889CModelRow.holds Yba.pinned (OpenSpec.ofChange lawS0889CModelSpec)

/-- ITS FALSE NEIGHBOUR: 'it returns false'. Refute it at one input. -/
def lawS0889CModelWrong : ChangeSpec := { name := "lawS0889CModel", fn := fun _ => fun
  | [d1, d2, d3, d4, d5, d6] => { results := [.lit (.bool false)], args := [d1, d2, d3, d4, d5, d6] }
  | _ => none }
def LawS0889CModelWrongFalsely : Prop := lawS0889CModelRow.holds Yba.pinned (OpenSpec.ofChange lawS0889CModelWrong)

end Rows
end Go.Proofs.Ybulkrjs
