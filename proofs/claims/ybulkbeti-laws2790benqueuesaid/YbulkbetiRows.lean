/-
  No cell of these rows narrows 'for every input' (looked for: loops, veiled, ifaces, maps, wideKeys, modest, calm, conditions, laid).
  DERIVED. THE GIVEN ROWS OF THIS SEAT. 3 by the template 'for every input the law returns true; each argument reads behind the call as it read before'; 0 by the template 'total and deterministic' (their statements: YbulkbetiTotals.lean).
  GIVEN WITH THE SEED: the statements are not yours to turn. If you find one false, say at which input.
  Laid BY PROGRAM, IN A SANDBOX (cutbox-rows.mjs): the forced cells as the released guide's own fill.sh prints them over the translation 483d670759806d02… (all of the seat's roots in one cut). By AI agents, Wed Nov 11 2026. No macro, syntax, notation, axiom, sorry.
-/
import Derived.Test.YbulkbetiChecked
import GoSem.Claim
import GoSem.ClaimJoined
import GoSem.ClaimMapViews
import Derived.JoinedTies
import Derived.KernelRfl
namespace Go.Proofs.Ybulkbeti
/- THE CELL 'sum', in the pinned program and in every row, IS THE sha256 OF THE DUMP (.gsa) THAT YbulkbetiProg.lean LOADS. Nothing in Lean hashes anything: it is a label: what it is worth is what the hold of that sum in a sandbox is worth. -/
noncomputable def Yba.pinned : Pinned := { name := "ybulkbeti", sum := "483d670759806d02d3c8a67d3ce7f2b98fe740710e92319a1ebd3a1177eb35dc", checked := Yba.checked }
namespace Rows
def none {H : Type} : Left H := { results := [], args := [] }

/-- 'stoker.LawS2790BEnqueue': WHATEVER THE INPUT: true; the input reads as it did. -/
def lawS2790BEnqueueSpec : ChangeSpec := { name := "lawS2790BEnqueue", fn := fun _ => fun
  | [d] => { results := [.lit (.bool true)], args := [d] }
  | _ => none }
def lawS2790BEnqueueRow : OpenClaim := { program := "ybulkbeti", sum := "483d670759806d02d3c8a67d3ce7f2b98fe740710e92319a1ebd3a1177eb35dc", func := "example.com/stoker/stoker.LawS2790BEnqueue", spec := "lawS2790BEnqueue", inPlace := ["sync/atomic.StoreInt32", "sync/atomic.StoreInt64", "(*internal/sync.Mutex).TryLock", "internal/race.Disable", "internal/race.Enable", "sync/atomic.CompareAndSwapInt32", "internal/race.Acquire", "(*internal/sync.Mutex).Lock", "(*internal/sync.Mutex).lockSlow", "internal/sync.runtime_canSpin", "internal/sync.runtime_doSpin", "internal/sync.throw", "internal/sync.runtime_nanotime", "internal/sync.runtime_SemacquireMutex", "sync/atomic.AddInt32", "sync/atomic.AddInt64", "sync/atomic.LoadInt32", "(*internal/sync.Mutex).Unlock", "internal/race.ReleaseMerge", "(*internal/sync.Mutex).unlockSlow", "internal/sync.fatal", "internal/sync.runtime_Semrelease", "(*sync.Cond).Signal", "(*sync.copyChecker).check", "sync.runtime_notifyListNotifyOne", "sync/atomic.LoadInt64"], unfollowed := true, recurses := true, apart := false }
def LawS2790BEnqueueSaid : Prop := lawS2790BEnqueueRow.holds Yba.pinned (OpenSpec.ofChange lawS2790BEnqueueSpec)

/-- ITS FALSE NEIGHBOUR: 'it returns false'. Refute it at one input. -/
def lawS2790BEnqueueWrong : ChangeSpec := { name := "lawS2790BEnqueue", fn := fun _ => fun
  | [d] => { results := [.lit (.bool false)], args := [d] }
  | _ => none }
def LawS2790BEnqueueWrongFalsely : Prop := lawS2790BEnqueueRow.holds Yba.pinned (OpenSpec.ofChange lawS2790BEnqueueWrong)

/-- 'stoker.LawS2790CSets': WHATEVER THE INPUT: true; the input reads as it did. -/
def lawS2790CSetsSpec : ChangeSpec := { name := "lawS2790CSets", fn := fun _ => fun
  | [d1, d2, d3, d4, d5, d6] => { results := [.lit (.bool true)], args := [d1, d2, d3, d4, d5, d6] }
  | _ => none }
def lawS2790CSetsRow : OpenClaim := { program := "ybulkbeti", sum := "483d670759806d02d3c8a67d3ce7f2b98fe740710e92319a1ebd3a1177eb35dc", func := "example.com/stoker/stoker.LawS2790CSets", spec := "lawS2790CSets", unfollowed := true, recurses := true, apart := false }
def LawS2790CSetsSaid : Prop := lawS2790CSetsRow.holds Yba.pinned (OpenSpec.ofChange lawS2790CSetsSpec)

/-- ITS FALSE NEIGHBOUR: 'it returns false'. Refute it at one input. -/
def lawS2790CSetsWrong : ChangeSpec := { name := "lawS2790CSets", fn := fun _ => fun
  | [d1, d2, d3, d4, d5, d6] => { results := [.lit (.bool false)], args := [d1, d2, d3, d4, d5, d6] }
  | _ => none }
def LawS2790CSetsWrongFalsely : Prop := lawS2790CSetsRow.holds Yba.pinned (OpenSpec.ofChange lawS2790CSetsWrong)

/-- 'stoker.LawS2790CNil': WHATEVER THE INPUT: true; the input reads as it did. -/
def lawS2790CNilSpec : ChangeSpec := { name := "lawS2790CNil", fn := fun _ => fun
  | [d1, d2, d3, d4, d5] => { results := [.lit (.bool true)], args := [d1, d2, d3, d4, d5] }
  | _ => none }
def lawS2790CNilRow : OpenClaim := { program := "ybulkbeti", sum := "483d670759806d02d3c8a67d3ce7f2b98fe740710e92319a1ebd3a1177eb35dc", func := "example.com/stoker/stoker.LawS2790CNil", spec := "lawS2790CNil", apart := false }
def LawS2790CNilSaid : Prop := lawS2790CNilRow.holds Yba.pinned (OpenSpec.ofChange lawS2790CNilSpec)

/-- ITS FALSE NEIGHBOUR: 'it returns false'. Refute it at one input. -/
def lawS2790CNilWrong : ChangeSpec := { name := "lawS2790CNil", fn := fun _ => fun
  | [d1, d2, d3, d4, d5] => { results := [.lit (.bool false)], args := [d1, d2, d3, d4, d5] }
  | _ => none }
def LawS2790CNilWrongFalsely : Prop := lawS2790CNilRow.holds Yba.pinned (OpenSpec.ofChange lawS2790CNilWrong)

end Rows
end Go.Proofs.Ybulkbeti
