/-
  DERIVED. GIVEN WITH THE SEED: THE CARDS: each row of YbulkrjsFmtRows.lean that lists a variable, with what it lists TIED to the program's text (the seventh form; the later family's looks); each row that meets fmt, with fmt's text TOLD by the authors' own Lean function (tested against real Go, not proved from fmt's source: count such statements apart). THE CARD IS WHAT COUNTS. Prove the row's statement (the work); the ties are given (YbulkrjsFmtTie.lean); close each card by the builder's one call (the guide's Derived/Test/ToyasCard.lean, 'card_holds'). Laid BY PROGRAM, IN A SANDBOX (cutbox-door.mjs). By AI agents, Wed Nov 11 2026. No macro, syntax, notation, axiom, sorry.
-/
import Derived.Test.YbulkrjsFmtRows
import GoSem.ClaimSeven
namespace Go.Proofs.YbulkrjsFmt
namespace Rows

/-- THE TOLD CARD OF 'weighbridge.LawS0889AGive'. -/
def lawS0889AGiveCard : Claim7 := { stood := { row := lawS0889AGiveRow, standIns := [], harness := (true, "b0d4a9e6fa80a8108cb8766750e1ee67ddc149f5031fd6bb1d6e4a289defcfbc"), looks := false }, told := true, goes := false }
def LawS0889AGiveToldSaid : Prop := Claim7.holds Ybaf.pinned (.plain (OpenSpec.ofChange lawS0889AGiveSpec)) lawS0889AGiveCard
/-- ITS FALSE NEIGHBOUR. Refute it at one input. -/
def LawS0889AGiveToldWrongFalsely : Prop := Claim7.holds Ybaf.pinned (.plain (OpenSpec.ofChange lawS0889AGiveWrong)) lawS0889AGiveCard

/-- THE TOLD CARD OF 'weighbridge.LawS0889ALocked'. -/
def lawS0889ALockedCard : Claim7 := { stood := { row := lawS0889ALockedRow, standIns := [], harness := (true, "b0d4a9e6fa80a8108cb8766750e1ee67ddc149f5031fd6bb1d6e4a289defcfbc"), looks := false }, told := true, goes := false }
def LawS0889ALockedToldSaid : Prop := Claim7.holds Ybaf.pinned (.plain (OpenSpec.ofChange lawS0889ALockedSpec)) lawS0889ALockedCard
/-- ITS FALSE NEIGHBOUR. Refute it at one input. -/
def LawS0889ALockedToldWrongFalsely : Prop := Claim7.holds Ybaf.pinned (.plain (OpenSpec.ofChange lawS0889ALockedWrong)) lawS0889ALockedCard

/-- THE TOLD CARD OF 'weighbridge.LawS0889BReadsLen'. -/
def lawS0889BReadsLenCard : Claim7 := { stood := { row := lawS0889BReadsLenRow, standIns := [], harness := (true, "b0d4a9e6fa80a8108cb8766750e1ee67ddc149f5031fd6bb1d6e4a289defcfbc"), looks := false }, told := true, goes := false }
def LawS0889BReadsLenToldSaid : Prop := Claim7.holds Ybaf.pinned (.plain (OpenSpec.ofChange lawS0889BReadsLenSpec)) lawS0889BReadsLenCard
/-- ITS FALSE NEIGHBOUR. Refute it at one input. -/
def LawS0889BReadsLenToldWrongFalsely : Prop := Claim7.holds Ybaf.pinned (.plain (OpenSpec.ofChange lawS0889BReadsLenWrong)) lawS0889BReadsLenCard

/-- THE TOLD CARD OF 'weighbridge.LawS0889BNoQueueNoWaiters'. -/
def lawS0889BNoQueueNoWaitersCard : Claim7 := { stood := { row := lawS0889BNoQueueNoWaitersRow, standIns := [], harness := (true, "b0d4a9e6fa80a8108cb8766750e1ee67ddc149f5031fd6bb1d6e4a289defcfbc"), looks := false }, told := true, goes := false }
def LawS0889BNoQueueNoWaitersToldSaid : Prop := Claim7.holds Ybaf.pinned (.plain (OpenSpec.ofChange lawS0889BNoQueueNoWaitersSpec)) lawS0889BNoQueueNoWaitersCard
/-- ITS FALSE NEIGHBOUR. Refute it at one input. -/
def LawS0889BNoQueueNoWaitersToldWrongFalsely : Prop := Claim7.holds Ybaf.pinned (.plain (OpenSpec.ofChange lawS0889BNoQueueNoWaitersWrong)) lawS0889BNoQueueNoWaitersCard

/-- THE TOLD CARD OF 'weighbridge.LawS0889CTry'. -/
def lawS0889CTryCard : Claim7 := { stood := { row := lawS0889CTryRow, standIns := [], harness := (true, "b0d4a9e6fa80a8108cb8766750e1ee67ddc149f5031fd6bb1d6e4a289defcfbc"), looks := false }, told := true, goes := false }
def LawS0889CTryToldSaid : Prop := Claim7.holds Ybaf.pinned (.plain (OpenSpec.ofChange lawS0889CTrySpec)) lawS0889CTryCard
/-- ITS FALSE NEIGHBOUR. Refute it at one input. -/
def LawS0889CTryToldWrongFalsely : Prop := Claim7.holds Ybaf.pinned (.plain (OpenSpec.ofChange lawS0889CTryWrong)) lawS0889CTryCard
end Rows
end Go.Proofs.YbulkrjsFmt
