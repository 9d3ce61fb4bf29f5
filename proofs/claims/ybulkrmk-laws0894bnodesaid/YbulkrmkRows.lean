/-
  No cell of these rows narrows 'for every input' (looked for: loops, veiled, ifaces, maps, wideKeys, modest, calm, conditions, laid).
  DERIVED. THE GIVEN ROWS OF THIS SEAT. 2 by the template 'for every input the law returns true; each argument reads behind the call as it read before'; 0 by the template 'total and deterministic' (their statements: YbulkrmkTotals.lean).
  GIVEN WITH THE SEED: the statements are not yours to turn. If you find one false, say at which input.
  Laid BY PROGRAM, IN A SANDBOX (cutbox-rows.mjs): the forced cells as the released guide's own fill.sh prints them over the translation 484ba40beddc9fe1… (all of the seat's roots in one cut). By AI agents, Wed Nov 11 2026. No macro, syntax, notation, axiom, sorry.
-/
import Derived.Test.YbulkrmkChecked
import GoSem.Claim
import GoSem.ClaimJoined
import GoSem.ClaimMapViews
import Derived.JoinedTies
import Derived.KernelRfl
namespace Go.Proofs.Ybulkrmk
/- THE CELL 'sum', in the pinned program and in every row, IS THE sha256 OF THE DUMP (.gsa) THAT YbulkrmkProg.lean LOADS. Nothing in Lean hashes anything: it is a label: what it is worth is what the hold of that sum in a sandbox is worth. -/
noncomputable def Yba.pinned : Pinned := { name := "ybulkrmk", sum := "484ba40beddc9fe1bd6ede336c0dfc39e8aed79949a00897ecf8c3d221f0e236", checked := Yba.checked }
namespace Rows
def none {H : Type} : Left H := { results := [], args := [] }

/-- 'explore.LawS0894BNode': WHATEVER THE INPUT: true; the input reads as it did. -/
def lawS0894BNodeSpec : ChangeSpec := { name := "lawS0894BNode", fn := fun _ => fun
  | [d1, d2, d3] => { results := [.lit (.bool true)], args := [d1, d2, d3] }
  | _ => none }
def lawS0894BNodeRow : OpenClaim := { program := "ybulkrmk", sum := "484ba40beddc9fe1bd6ede336c0dfc39e8aed79949a00897ecf8c3d221f0e236", func := "example.com/synodic/synodic/internal/explore.LawS0894BNode", spec := "lawS0894BNode", plainKeys := false, apart := false }
def LawS0894BNodeSaid : Prop := lawS0894BNodeRow.holds Yba.pinned (OpenSpec.ofChange lawS0894BNodeSpec)

/-- ITS FALSE NEIGHBOUR: 'it returns false'. Refute it at one input. -/
def lawS0894BNodeWrong : ChangeSpec := { name := "lawS0894BNode", fn := fun _ => fun
  | [d1, d2, d3] => { results := [.lit (.bool false)], args := [d1, d2, d3] }
  | _ => none }
def LawS0894BNodeWrongFalsely : Prop := lawS0894BNodeRow.holds Yba.pinned (OpenSpec.ofChange lawS0894BNodeWrong)

/-- 'explore.LawS0894BProposer': WHATEVER THE INPUT: true; the input reads as it did. -/
def lawS0894BProposerSpec : ChangeSpec := { name := "lawS0894BProposer", fn := fun _ => fun
  | [d1, d2, d3] => { results := [.lit (.bool true)], args := [d1, d2, d3] }
  | _ => none }
def lawS0894BProposerRow : OpenClaim := { program := "ybulkrmk", sum := "484ba40beddc9fe1bd6ede336c0dfc39e8aed79949a00897ecf8c3d221f0e236", func := "example.com/synodic/synodic/internal/explore.LawS0894BProposer", spec := "lawS0894BProposer", plainKeys := false, apart := false }
def LawS0894BProposerSaid : Prop := lawS0894BProposerRow.holds Yba.pinned (OpenSpec.ofChange lawS0894BProposerSpec)

/-- ITS FALSE NEIGHBOUR: 'it returns false'. Refute it at one input. -/
def lawS0894BProposerWrong : ChangeSpec := { name := "lawS0894BProposer", fn := fun _ => fun
  | [d1, d2, d3] => { results := [.lit (.bool false)], args := [d1, d2, d3] }
  | _ => none }
def LawS0894BProposerWrongFalsely : Prop := lawS0894BProposerRow.holds Yba.pinned (OpenSpec.ofChange lawS0894BProposerWrong)

end Rows
end Go.Proofs.Ybulkrmk
