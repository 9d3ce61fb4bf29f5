/-
  No cell of these rows narrows 'for every input' (looked for: loops, veiled, ifaces, maps, wideKeys, modest, calm, conditions, laid).
  DERIVED. THE GIVEN ROWS OF THIS SEAT. 5 by the template 'for every input the law returns true; each argument reads behind the call as it read before'; 0 by the template 'total and deterministic' (their statements: YbulkrjsFmtTotals.lean).
  GIVEN WITH THE SEED: the statements are not yours to turn. If you find one false, say at which input.
  Laid BY PROGRAM, IN A SANDBOX (cutbox-rows.mjs): the forced cells as the released guide's own fill.sh prints them over the translation 7510e264e59877c4… (all of the seat's roots in one cut). By AI agents, Wed Nov 11 2026. No macro, syntax, notation, axiom, sorry.
-/
import Derived.Test.YbulkrjsFmtChecked
import GoSem.Claim
import GoSem.ClaimJoined
import GoSem.ClaimMapViews
import Derived.JoinedTies
import Derived.KernelRfl
namespace Go.Proofs.YbulkrjsFmt
/- THE CELL 'sum', in the pinned program and in every row, IS THE sha256 OF THE DUMP (.gsa) THAT YbulkrjsFmtProg.lean LOADS. Nothing in Lean hashes anything: it is a label: what it is worth is what the hold of that sum in a sandbox is worth. -/
noncomputable def Ybaf.pinned : Pinned := { name := "ybulkrjsfmt", sum := "7510e264e59877c4881a65a7b305988416c0a1e0634dad58057cf07f2076cfb9", checked := Ybaf.checked }
namespace Rows
def none {H : Type} : Left H := { results := [], args := [] }

/-- 'weighbridge.LawS0889AGive': WHATEVER THE INPUT: true; the input reads as it did. -/
def lawS0889AGiveSpec : ChangeSpec := { name := "lawS0889AGive", fn := fun _ => fun
  | [d1, d2, d3] => { results := [.lit (.bool true)], args := [d1, d2, d3] }
  | _ => none }
def lawS0889AGiveRow : OpenClaim := { program := "ybulkrjsfmt", sum := "7510e264e59877c4881a65a7b305988416c0a1e0634dad58057cf07f2076cfb9", func := "example.com/weighbridge/weighbridge.LawS0889AGive", spec := "lawS0889AGive", stops := ["fmt.Sprintf"], inPlace := ["fmt.Sprintf", "sync/atomic.LoadInt64", "sync/atomic.CompareAndSwapInt64", "(*internal/sync.Mutex).Lock", "internal/race.Disable", "sync/atomic.CompareAndSwapInt32", "internal/race.Enable", "internal/race.Acquire", "(*internal/sync.Mutex).lockSlow", "internal/sync.runtime_canSpin", "internal/sync.runtime_doSpin", "internal/sync.throw", "internal/sync.runtime_nanotime", "internal/sync.runtime_SemacquireMutex", "sync/atomic.AddInt32", "sync/atomic.OrInt64", "sync/atomic.AddInt64", "sync/atomic.AndInt64", "(*internal/sync.Mutex).Unlock", "internal/race.ReleaseMerge", "(*internal/sync.Mutex).unlockSlow", "internal/sync.fatal", "internal/sync.runtime_Semrelease"], apart := false }
/-- NO THEOREM (fmt's text is open here; it may be false): for the released tool's asking of the row's closed facts alone. THE STATEMENT IS 'LawS0889AGiveToldSaid' (YbulkrjsFmtCards.lean). -/
def LawS0889AGiveFormAsk : Prop := lawS0889AGiveRow.holds Ybaf.pinned (OpenSpec.ofChange lawS0889AGiveSpec)

/-- ITS FALSE NEIGHBOUR: 'it returns false'. Refute it at one input. -/
def lawS0889AGiveWrong : ChangeSpec := { name := "lawS0889AGive", fn := fun _ => fun
  | [d1, d2, d3] => { results := [.lit (.bool false)], args := [d1, d2, d3] }
  | _ => none }
def LawS0889AGiveWrongFormAsk : Prop := lawS0889AGiveRow.holds Ybaf.pinned (OpenSpec.ofChange lawS0889AGiveWrong)

/-- 'weighbridge.LawS0889ALocked': WHATEVER THE INPUT: true; the input reads as it did. -/
def lawS0889ALockedSpec : ChangeSpec := { name := "lawS0889ALocked", fn := fun _ => fun
  | [d1, d2, d3] => { results := [.lit (.bool true)], args := [d1, d2, d3] }
  | _ => none }
def lawS0889ALockedRow : OpenClaim := { program := "ybulkrjsfmt", sum := "7510e264e59877c4881a65a7b305988416c0a1e0634dad58057cf07f2076cfb9", func := "example.com/weighbridge/weighbridge.LawS0889ALocked", spec := "lawS0889ALocked", stops := ["fmt.Sprintf"], inPlace := ["fmt.Sprintf", "sync/atomic.LoadInt64", "sync/atomic.CompareAndSwapInt64", "(*internal/sync.Mutex).Lock", "internal/race.Disable", "sync/atomic.CompareAndSwapInt32", "internal/race.Enable", "internal/race.Acquire", "(*internal/sync.Mutex).lockSlow", "internal/sync.runtime_canSpin", "internal/sync.runtime_doSpin", "internal/sync.throw", "internal/sync.runtime_nanotime", "internal/sync.runtime_SemacquireMutex", "sync/atomic.AddInt32", "sync/atomic.OrInt64", "sync/atomic.AddInt64", "sync/atomic.AndInt64", "(*internal/sync.Mutex).Unlock", "internal/race.ReleaseMerge", "(*internal/sync.Mutex).unlockSlow", "internal/sync.fatal", "internal/sync.runtime_Semrelease"], apart := false }
/-- NO THEOREM (fmt's text is open here; it may be false): for the released tool's asking of the row's closed facts alone. THE STATEMENT IS 'LawS0889ALockedToldSaid' (YbulkrjsFmtCards.lean). -/
def LawS0889ALockedFormAsk : Prop := lawS0889ALockedRow.holds Ybaf.pinned (OpenSpec.ofChange lawS0889ALockedSpec)

/-- ITS FALSE NEIGHBOUR: 'it returns false'. Refute it at one input. -/
def lawS0889ALockedWrong : ChangeSpec := { name := "lawS0889ALocked", fn := fun _ => fun
  | [d1, d2, d3] => { results := [.lit (.bool false)], args := [d1, d2, d3] }
  | _ => none }
def LawS0889ALockedWrongFormAsk : Prop := lawS0889ALockedRow.holds Ybaf.pinned (OpenSpec.ofChange lawS0889ALockedWrong)

/-- 'weighbridge.LawS0889BReadsLen': WHATEVER THE INPUT: true; the input reads as it did. -/
def lawS0889BReadsLenSpec : ChangeSpec := { name := "lawS0889BReadsLen", fn := fun _ => fun
  | [d1, d2] => { results := [.lit (.bool true)], args := [d1, d2] }
  | _ => none }
def lawS0889BReadsLenRow : OpenClaim := { program := "ybulkrjsfmt", sum := "7510e264e59877c4881a65a7b305988416c0a1e0634dad58057cf07f2076cfb9", func := "example.com/weighbridge/weighbridge.LawS0889BReadsLen", spec := "lawS0889BReadsLen", stops := ["fmt.Sprintf"], inPlace := ["fmt.Sprintf", "(*internal/sync.Mutex).Lock", "internal/race.Disable", "sync/atomic.CompareAndSwapInt32", "internal/race.Enable", "internal/race.Acquire", "(*internal/sync.Mutex).lockSlow", "internal/sync.runtime_canSpin", "internal/sync.runtime_doSpin", "internal/sync.throw", "internal/sync.runtime_nanotime", "internal/sync.runtime_SemacquireMutex", "sync/atomic.AddInt32", "(*internal/sync.Mutex).Unlock", "internal/race.ReleaseMerge", "(*internal/sync.Mutex).unlockSlow", "internal/sync.fatal", "internal/sync.runtime_Semrelease", "(*internal/sync.Mutex).TryLock"], apart := false }
/-- NO THEOREM (fmt's text is open here; it may be false): for the released tool's asking of the row's closed facts alone. THE STATEMENT IS 'LawS0889BReadsLenToldSaid' (YbulkrjsFmtCards.lean). -/
def LawS0889BReadsLenFormAsk : Prop := lawS0889BReadsLenRow.holds Ybaf.pinned (OpenSpec.ofChange lawS0889BReadsLenSpec)

/-- ITS FALSE NEIGHBOUR: 'it returns false'. Refute it at one input. -/
def lawS0889BReadsLenWrong : ChangeSpec := { name := "lawS0889BReadsLen", fn := fun _ => fun
  | [d1, d2] => { results := [.lit (.bool false)], args := [d1, d2] }
  | _ => none }
def LawS0889BReadsLenWrongFormAsk : Prop := lawS0889BReadsLenRow.holds Ybaf.pinned (OpenSpec.ofChange lawS0889BReadsLenWrong)

/-- 'weighbridge.LawS0889BNoQueueNoWaiters': WHATEVER THE INPUT: true; the input reads as it did. -/
def lawS0889BNoQueueNoWaitersSpec : ChangeSpec := { name := "lawS0889BNoQueueNoWaiters", fn := fun _ => fun
  | [d1, d2] => { results := [.lit (.bool true)], args := [d1, d2] }
  | _ => none }
def lawS0889BNoQueueNoWaitersRow : OpenClaim := { program := "ybulkrjsfmt", sum := "7510e264e59877c4881a65a7b305988416c0a1e0634dad58057cf07f2076cfb9", func := "example.com/weighbridge/weighbridge.LawS0889BNoQueueNoWaiters", spec := "lawS0889BNoQueueNoWaiters", stops := ["fmt.Sprintf"], inPlace := ["fmt.Sprintf", "(*internal/sync.Mutex).Lock", "internal/race.Disable", "sync/atomic.CompareAndSwapInt32", "internal/race.Enable", "internal/race.Acquire", "(*internal/sync.Mutex).lockSlow", "internal/sync.runtime_canSpin", "internal/sync.runtime_doSpin", "internal/sync.throw", "internal/sync.runtime_nanotime", "internal/sync.runtime_SemacquireMutex", "sync/atomic.AddInt32", "(*internal/sync.Mutex).Unlock", "internal/race.ReleaseMerge", "(*internal/sync.Mutex).unlockSlow", "internal/sync.fatal", "internal/sync.runtime_Semrelease", "sync/atomic.LoadInt64", "sync/atomic.CompareAndSwapInt64", "sync/atomic.OrInt64", "sync/atomic.AddInt64", "sync/atomic.AndInt64", "(*sync.Cond).Signal", "(*sync.copyChecker).check", "sync.runtime_notifyListNotifyOne", "(*internal/sync.Mutex).TryLock"], apart := false }
/-- NO THEOREM (fmt's text is open here; it may be false): for the released tool's asking of the row's closed facts alone. THE STATEMENT IS 'LawS0889BNoQueueNoWaitersToldSaid' (YbulkrjsFmtCards.lean). -/
def LawS0889BNoQueueNoWaitersFormAsk : Prop := lawS0889BNoQueueNoWaitersRow.holds Ybaf.pinned (OpenSpec.ofChange lawS0889BNoQueueNoWaitersSpec)

/-- ITS FALSE NEIGHBOUR: 'it returns false'. Refute it at one input. -/
def lawS0889BNoQueueNoWaitersWrong : ChangeSpec := { name := "lawS0889BNoQueueNoWaiters", fn := fun _ => fun
  | [d1, d2] => { results := [.lit (.bool false)], args := [d1, d2] }
  | _ => none }
def LawS0889BNoQueueNoWaitersWrongFormAsk : Prop := lawS0889BNoQueueNoWaitersRow.holds Ybaf.pinned (OpenSpec.ofChange lawS0889BNoQueueNoWaitersWrong)

/-- 'weighbridge.LawS0889CTry': WHATEVER THE INPUT: true; the input reads as it did. -/
def lawS0889CTrySpec : ChangeSpec := { name := "lawS0889CTry", fn := fun _ => fun
  | [d1, d2, d3, d4] => { results := [.lit (.bool true)], args := [d1, d2, d3, d4] }
  | _ => none }
def lawS0889CTryRow : OpenClaim := { program := "ybulkrjsfmt", sum := "7510e264e59877c4881a65a7b305988416c0a1e0634dad58057cf07f2076cfb9", func := "example.com/weighbridge/weighbridge.LawS0889CTry", spec := "lawS0889CTry", stops := ["fmt.Sprintf"], inPlace := ["fmt.Sprintf", "sync/atomic.LoadInt64", "sync/atomic.CompareAndSwapInt64", "(*internal/sync.Mutex).Lock", "internal/race.Disable", "sync/atomic.CompareAndSwapInt32", "internal/race.Enable", "internal/race.Acquire", "(*internal/sync.Mutex).lockSlow", "internal/sync.runtime_canSpin", "internal/sync.runtime_doSpin", "internal/sync.throw", "internal/sync.runtime_nanotime", "internal/sync.runtime_SemacquireMutex", "sync/atomic.AddInt32", "sync/atomic.OrInt64", "sync/atomic.AddInt64", "sync/atomic.AndInt64", "(*internal/sync.Mutex).Unlock", "internal/race.ReleaseMerge", "(*internal/sync.Mutex).unlockSlow", "internal/sync.fatal", "internal/sync.runtime_Semrelease", "(*sync.Cond).Signal", "(*sync.copyChecker).check", "sync.runtime_notifyListNotifyOne"], apart := false }
/-- NO THEOREM (fmt's text is open here; it may be false): for the released tool's asking of the row's closed facts alone. THE STATEMENT IS 'LawS0889CTryToldSaid' (YbulkrjsFmtCards.lean). -/
def LawS0889CTryFormAsk : Prop := lawS0889CTryRow.holds Ybaf.pinned (OpenSpec.ofChange lawS0889CTrySpec)

/-- ITS FALSE NEIGHBOUR: 'it returns false'. Refute it at one input. -/
def lawS0889CTryWrong : ChangeSpec := { name := "lawS0889CTry", fn := fun _ => fun
  | [d1, d2, d3, d4] => { results := [.lit (.bool false)], args := [d1, d2, d3, d4] }
  | _ => none }
def LawS0889CTryWrongFormAsk : Prop := lawS0889CTryRow.holds Ybaf.pinned (OpenSpec.ofChange lawS0889CTryWrong)

end Rows
end Go.Proofs.YbulkrjsFmt
