/-
  No cell of these rows narrows 'for every input' (looked for: loops, veiled, ifaces, maps, wideKeys, modest, calm, conditions, laid).
  DERIVED. THE GIVEN ROWS OF THIS SEAT. 5 by the template 'for every input the law returns true; each argument reads behind the call as it read before'; 0 by the template 'total and deterministic' (their statements: YbulkczsaTotals.lean).
  GIVEN WITH THE SEED: the statements are not yours to turn. If you find one false, say at which input.
  Laid BY PROGRAM, IN A SANDBOX (cutbox-rows.mjs): the forced cells as the released guide's own fill.sh prints them over the translation e6788c85cf472066… (all of the seat's roots in one cut). By AI agents, Wed Nov 11 2026. No macro, syntax, notation, axiom, sorry.
-/
import Derived.Test.YbulkczsaChecked
import GoSem.Claim
import GoSem.ClaimJoined
import GoSem.ClaimMapViews
import Derived.JoinedTies
import Derived.KernelRfl
namespace Go.Proofs.Ybulkczsa
/- THE CELL 'sum', in the pinned program and in every row, IS THE sha256 OF THE DUMP (.gsa) THAT YbulkczsaProg.lean LOADS. Nothing in Lean hashes anything: it is a label: what it is worth is what the hold of that sum in a sandbox is worth. -/
noncomputable def Yba.pinned : Pinned := { name := "ybulkczsa", sum := "e6788c85cf472066b61dc0dcda5434e65440e13867ae43650605751f37bcc9e7", checked := Yba.checked }
namespace Rows
def none {H : Type} : Left H := { results := [], args := [] }

/-- 'wildcard.LawS5057AModel': WHATEVER THE INPUT: true; the input reads as it did. -/
def lawS5057AModelSpec : ChangeSpec := { name := "lawS5057AModel", fn := fun _ => fun
  | [d1, d2] => { results := [.lit (.bool true)], args := [d1, d2] }
  | _ => none }
def lawS5057AModelRow : OpenClaim := { program := "ybulkczsa", sum := "e6788c85cf472066b61dc0dcda5434e65440e13867ae43650605751f37bcc9e7", func := "example.com/wildcard/wildcard.LawS5057AModel", spec := "lawS5057AModel", apart := false }
def LawS5057AModelSaid : Prop := lawS5057AModelRow.holds Yba.pinned (OpenSpec.ofChange lawS5057AModelSpec)

/-- ITS FALSE NEIGHBOUR: 'it returns false'. Refute it at one input. -/
def lawS5057AModelWrong : ChangeSpec := { name := "lawS5057AModel", fn := fun _ => fun
  | [d1, d2] => { results := [.lit (.bool false)], args := [d1, d2] }
  | _ => none }
def LawS5057AModelWrongFalsely : Prop := lawS5057AModelRow.holds Yba.pinned (OpenSpec.ofChange lawS5057AModelWrong)

/-- 'wildcard.LawS5057AStrip': WHATEVER THE INPUT: true; the input reads as it did. -/
def lawS5057AStripSpec : ChangeSpec := { name := "lawS5057AStrip", fn := fun _ => fun
  | [d1, d2] => { results := [.lit (.bool true)], args := [d1, d2] }
  | _ => none }
def lawS5057AStripRow : OpenClaim := { program := "ybulkczsa", sum := "e6788c85cf472066b61dc0dcda5434e65440e13867ae43650605751f37bcc9e7", func := "example.com/wildcard/wildcard.LawS5057AStrip", spec := "lawS5057AStrip", apart := false }
def LawS5057AStripSaid : Prop := lawS5057AStripRow.holds Yba.pinned (OpenSpec.ofChange lawS5057AStripSpec)

/-- ITS FALSE NEIGHBOUR: 'it returns false'. Refute it at one input. -/
def lawS5057AStripWrong : ChangeSpec := { name := "lawS5057AStrip", fn := fun _ => fun
  | [d1, d2] => { results := [.lit (.bool false)], args := [d1, d2] }
  | _ => none }
def LawS5057AStripWrongFalsely : Prop := lawS5057AStripRow.holds Yba.pinned (OpenSpec.ofChange lawS5057AStripWrong)

/-- 'wildcard.LawS5057BScript': WHATEVER THE INPUT: true; the input reads as it did. -/
def lawS5057BScriptSpec : ChangeSpec := { name := "lawS5057BScript", fn := fun _ => fun
  | [d] => { results := [.lit (.bool true)], args := [d] }
  | _ => none }
def lawS5057BScriptRow : OpenClaim := { program := "ybulkczsa", sum := "e6788c85cf472066b61dc0dcda5434e65440e13867ae43650605751f37bcc9e7", func := "example.com/wildcard/wildcard.LawS5057BScript", spec := "lawS5057BScript", inPlace := ["sync/atomic.LoadUint64", "sync/atomic.LoadPointer", "sync/atomic.StoreUint64", "(*internal/sync.Mutex).Lock", "internal/race.Disable", "sync/atomic.CompareAndSwapInt32", "internal/race.Enable", "internal/race.Acquire", "(*internal/sync.Mutex).lockSlow", "internal/sync.runtime_canSpin", "internal/sync.runtime_doSpin", "internal/sync.throw", "internal/sync.runtime_nanotime", "internal/sync.runtime_SemacquireMutex", "sync/atomic.AddInt32", "(*internal/sync.Mutex).Unlock", "internal/race.ReleaseMerge", "(*internal/sync.Mutex).unlockSlow", "internal/sync.fatal", "internal/sync.runtime_Semrelease", "sync/atomic.AddUint64", "sync/atomic.StorePointer"], apart := false }
def LawS5057BScriptSaid : Prop := lawS5057BScriptRow.holds Yba.pinned (OpenSpec.ofChange lawS5057BScriptSpec)

/-- ITS FALSE NEIGHBOUR: 'it returns false'. Refute it at one input. -/
def lawS5057BScriptWrong : ChangeSpec := { name := "lawS5057BScript", fn := fun _ => fun
  | [d] => { results := [.lit (.bool false)], args := [d] }
  | _ => none }
def LawS5057BScriptWrongFalsely : Prop := lawS5057BScriptRow.holds Yba.pinned (OpenSpec.ofChange lawS5057BScriptWrong)

/-- 'wildcard.LawS5057BFifo': WHATEVER THE INPUT: true; the input reads as it did. -/
def lawS5057BFifoSpec : ChangeSpec := { name := "lawS5057BFifo", fn := fun _ => fun
  | [d] => { results := [.lit (.bool true)], args := [d] }
  | _ => none }
def lawS5057BFifoRow : OpenClaim := { program := "ybulkczsa", sum := "e6788c85cf472066b61dc0dcda5434e65440e13867ae43650605751f37bcc9e7", func := "example.com/wildcard/wildcard.LawS5057BFifo", spec := "lawS5057BFifo", inPlace := ["(*internal/sync.Mutex).Lock", "internal/race.Disable", "sync/atomic.CompareAndSwapInt32", "internal/race.Enable", "internal/race.Acquire", "(*internal/sync.Mutex).lockSlow", "internal/sync.runtime_canSpin", "internal/sync.runtime_doSpin", "internal/sync.throw", "internal/sync.runtime_nanotime", "internal/sync.runtime_SemacquireMutex", "sync/atomic.AddInt32", "(*internal/sync.Mutex).Unlock", "internal/race.ReleaseMerge", "(*internal/sync.Mutex).unlockSlow", "internal/sync.fatal", "internal/sync.runtime_Semrelease", "sync/atomic.LoadUint64", "sync/atomic.LoadPointer", "sync/atomic.StoreUint64", "sync/atomic.AddUint64", "sync/atomic.StorePointer"], apart := false }
def LawS5057BFifoSaid : Prop := lawS5057BFifoRow.holds Yba.pinned (OpenSpec.ofChange lawS5057BFifoSpec)

/-- ITS FALSE NEIGHBOUR: 'it returns false'. Refute it at one input. -/
def lawS5057BFifoWrong : ChangeSpec := { name := "lawS5057BFifo", fn := fun _ => fun
  | [d] => { results := [.lit (.bool false)], args := [d] }
  | _ => none }
def LawS5057BFifoWrongFalsely : Prop := lawS5057BFifoRow.holds Yba.pinned (OpenSpec.ofChange lawS5057BFifoWrong)

/-- 'wildcard.LawS5057CFind': WHATEVER THE INPUT: true; the input reads as it did. -/
def lawS5057CFindSpec : ChangeSpec := { name := "lawS5057CFind", fn := fun _ => fun
  | [d1, d2, d3] => { results := [.lit (.bool true)], args := [d1, d2, d3] }
  | _ => none }
def lawS5057CFindRow : OpenClaim := { program := "ybulkczsa", sum := "e6788c85cf472066b61dc0dcda5434e65440e13867ae43650605751f37bcc9e7", func := "example.com/wildcard/wildcard.LawS5057CFind", spec := "lawS5057CFind", inPlace := ["sync/atomic.StoreUint64", "sync/atomic.StorePointer", "sync/atomic.LoadUint64", "sync/atomic.LoadPointer"], apart := false }
def LawS5057CFindSaid : Prop := lawS5057CFindRow.holds Yba.pinned (OpenSpec.ofChange lawS5057CFindSpec)

/-- ITS FALSE NEIGHBOUR: 'it returns false'. Refute it at one input. -/
def lawS5057CFindWrong : ChangeSpec := { name := "lawS5057CFind", fn := fun _ => fun
  | [d1, d2, d3] => { results := [.lit (.bool false)], args := [d1, d2, d3] }
  | _ => none }
def LawS5057CFindWrongFalsely : Prop := lawS5057CFindRow.holds Yba.pinned (OpenSpec.ofChange lawS5057CFindWrong)

end Rows
end Go.Proofs.Ybulkczsa
