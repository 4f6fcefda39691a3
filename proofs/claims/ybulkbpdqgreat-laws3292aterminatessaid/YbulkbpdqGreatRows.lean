/-
  No cell of these rows narrows 'for every input' (looked for: loops, veiled, ifaces, maps, wideKeys, modest, calm, conditions, laid).
  DERIVED. THE GIVEN ROWS OF THIS SEAT. 5 by the template 'for every input the law returns true; each argument reads behind the call as it read before'; 0 by the template 'total and deterministic' (their statements: YbulkbpdqGreatTotals.lean).
  GIVEN WITH THE SEED: the statements are not yours to turn. If you find one false, say at which input.
  Laid BY PROGRAM, IN A SANDBOX (cutbox-rows.mjs): the forced cells as the released guide's own fill.sh prints them over the translation 1a0032f694b1dee9… (all of the seat's roots in one cut). By AI agents, Wed Nov 11 2026. No macro, syntax, notation, axiom, sorry.
-/
import Derived.Test.YbulkbpdqGreatChecked
import GoSem.Claim
import GoSem.ClaimJoined
import GoSem.ClaimMapViews
import Derived.JoinedTies
import Derived.KernelRfl
namespace Go.Proofs.YbulkbpdqGreat
/- THE CELL 'sum', in the pinned program and in every row, IS THE sha256 OF THE DUMP (.gsa) THAT YbulkbpdqGreatProg.lean LOADS. Nothing in Lean hashes anything: it is a label: what it is worth is what the hold of that sum in a sandbox is worth. -/
noncomputable def Ybaz.pinned : Pinned := { name := "ybulkbpdqgreat", sum := "1a0032f694b1dee991d0f8c254d5c86ded145e797a77e451f498a7fd65220905", checked := Ybaz.checked }
namespace Rows
def none {H : Type} : Left H := { results := [], args := [] }

/-- 'c2v2pl.LawS3292ATerminates': WHATEVER THE INPUT: true; the input reads as it did. -/
def lawS3292ATerminatesSpec : ChangeSpec := { name := "lawS3292ATerminates", fn := fun _ => fun
  | [d1, d2] => { results := [.lit (.bool true)], args := [d1, d2] }
  | _ => none }
def lawS3292ATerminatesRow : OpenClaim := { program := "ybulkbpdqgreat", sum := "1a0032f694b1dee991d0f8c254d5c86ded145e797a77e451f498a7fd65220905", func := "example.com/latchwork/latchwork/c2v2pl.LawS3292ATerminates", spec := "lawS3292ATerminates", inPlace := ["(*internal/sync.Mutex).Lock", "internal/race.Disable", "sync/atomic.CompareAndSwapInt32", "internal/race.Enable", "internal/race.Acquire", "(*internal/sync.Mutex).lockSlow", "internal/sync.runtime_canSpin", "internal/sync.runtime_doSpin", "internal/sync.throw", "internal/sync.runtime_nanotime", "internal/sync.runtime_SemacquireMutex", "sync/atomic.AddInt32", "(*internal/sync.Mutex).Unlock", "internal/race.ReleaseMerge", "(*internal/sync.Mutex).unlockSlow", "internal/sync.fatal", "internal/sync.runtime_Semrelease", "sync/atomic.StoreUint32", "sync/atomic.LoadUint32", "sync/atomic.LoadInt64", "sync/atomic.StoreInt64"], unfollowed := true, recurses := true, apart := false }
def LawS3292ATerminatesSaid : Prop := lawS3292ATerminatesRow.holds Ybaz.pinned (OpenSpec.ofChange lawS3292ATerminatesSpec)

/-- ITS FALSE NEIGHBOUR: 'it returns false'. Refute it at one input. -/
def lawS3292ATerminatesWrong : ChangeSpec := { name := "lawS3292ATerminates", fn := fun _ => fun
  | [d1, d2] => { results := [.lit (.bool false)], args := [d1, d2] }
  | _ => none }
def LawS3292ATerminatesWrongFalsely : Prop := lawS3292ATerminatesRow.holds Ybaz.pinned (OpenSpec.ofChange lawS3292ATerminatesWrong)

/-- 'c2v2pl.LawS3292AAdapts': WHATEVER THE INPUT: true; the input reads as it did. -/
def lawS3292AAdaptsSpec : ChangeSpec := { name := "lawS3292AAdapts", fn := fun _ => fun
  | [d1, d2, d3, d4, d5] => { results := [.lit (.bool true)], args := [d1, d2, d3, d4, d5] }
  | _ => none }
def lawS3292AAdaptsRow : OpenClaim := { program := "ybulkbpdqgreat", sum := "1a0032f694b1dee991d0f8c254d5c86ded145e797a77e451f498a7fd65220905", func := "example.com/latchwork/latchwork/c2v2pl.LawS3292AAdapts", spec := "lawS3292AAdapts", inPlace := ["(*internal/sync.Mutex).Lock", "internal/race.Disable", "sync/atomic.CompareAndSwapInt32", "internal/race.Enable", "internal/race.Acquire", "(*internal/sync.Mutex).lockSlow", "internal/sync.runtime_canSpin", "internal/sync.runtime_doSpin", "internal/sync.throw", "internal/sync.runtime_nanotime", "internal/sync.runtime_SemacquireMutex", "sync/atomic.AddInt32", "(*internal/sync.Mutex).Unlock", "internal/race.ReleaseMerge", "(*internal/sync.Mutex).unlockSlow", "internal/sync.fatal", "internal/sync.runtime_Semrelease", "sync/atomic.StoreUint32", "sync/atomic.LoadUint32", "sync/atomic.LoadInt64", "sync/atomic.StoreInt64"], unfollowed := true, recurses := true, apart := false }
def LawS3292AAdaptsSaid : Prop := lawS3292AAdaptsRow.holds Ybaz.pinned (OpenSpec.ofChange lawS3292AAdaptsSpec)

/-- ITS FALSE NEIGHBOUR: 'it returns false'. Refute it at one input. -/
def lawS3292AAdaptsWrong : ChangeSpec := { name := "lawS3292AAdapts", fn := fun _ => fun
  | [d1, d2, d3, d4, d5] => { results := [.lit (.bool false)], args := [d1, d2, d3, d4, d5] }
  | _ => none }
def LawS3292AAdaptsWrongFalsely : Prop := lawS3292AAdaptsRow.holds Ybaz.pinned (OpenSpec.ofChange lawS3292AAdaptsWrong)

/-- 'fivecolor.LawS3292BGrantAlone': WHATEVER THE INPUT: true; the input reads as it did. -/
def lawS3292BGrantAloneSpec : ChangeSpec := { name := "lawS3292BGrantAlone", fn := fun _ => fun
  | [d1, d2, d3] => { results := [.lit (.bool true)], args := [d1, d2, d3] }
  | _ => none }
def lawS3292BGrantAloneRow : OpenClaim := { program := "ybulkbpdqgreat", sum := "1a0032f694b1dee991d0f8c254d5c86ded145e797a77e451f498a7fd65220905", func := "example.com/latchwork/latchwork/fivecolor.LawS3292BGrantAlone", spec := "lawS3292BGrantAlone", inPlace := ["(*internal/sync.Mutex).Lock", "internal/race.Disable", "sync/atomic.CompareAndSwapInt32", "internal/race.Enable", "internal/race.Acquire", "(*internal/sync.Mutex).lockSlow", "internal/sync.runtime_canSpin", "internal/sync.runtime_doSpin", "internal/sync.throw", "internal/sync.runtime_nanotime", "internal/sync.runtime_SemacquireMutex", "sync/atomic.AddInt32", "(*internal/sync.Mutex).Unlock", "internal/race.ReleaseMerge", "(*internal/sync.Mutex).unlockSlow", "internal/sync.fatal", "internal/sync.runtime_Semrelease", "sync/atomic.LoadUint32", "sync/atomic.StoreUint32", "sync/atomic.LoadInt64", "sync/atomic.StoreInt64", "internal/bytealg.IndexByteString", "slices.overlaps[example.com/latchwork/latchwork/internal/waitlist.entry[*example.com/latchwork/latchwork/fivecolor.txn]]"], unfollowed := true, recurses := true, apart := false }
def LawS3292BGrantAloneSaid : Prop := lawS3292BGrantAloneRow.holds Ybaz.pinned (OpenSpec.ofChange lawS3292BGrantAloneSpec)

/-- ITS FALSE NEIGHBOUR: 'it returns false'. Refute it at one input. -/
def lawS3292BGrantAloneWrong : ChangeSpec := { name := "lawS3292BGrantAlone", fn := fun _ => fun
  | [d1, d2, d3] => { results := [.lit (.bool false)], args := [d1, d2, d3] }
  | _ => none }
def LawS3292BGrantAloneWrongFalsely : Prop := lawS3292BGrantAloneRow.holds Ybaz.pinned (OpenSpec.ofChange lawS3292BGrantAloneWrong)

/-- 'fivecolor.LawS3292BRedeclare': WHATEVER THE INPUT: true; the input reads as it did. -/
def lawS3292BRedeclareSpec : ChangeSpec := { name := "lawS3292BRedeclare", fn := fun _ => fun
  | [d1, d2, d3] => { results := [.lit (.bool true)], args := [d1, d2, d3] }
  | _ => none }
def lawS3292BRedeclareRow : OpenClaim := { program := "ybulkbpdqgreat", sum := "1a0032f694b1dee991d0f8c254d5c86ded145e797a77e451f498a7fd65220905", func := "example.com/latchwork/latchwork/fivecolor.LawS3292BRedeclare", spec := "lawS3292BRedeclare", inPlace := ["(*internal/sync.Mutex).Lock", "internal/race.Disable", "sync/atomic.CompareAndSwapInt32", "internal/race.Enable", "internal/race.Acquire", "(*internal/sync.Mutex).lockSlow", "internal/sync.runtime_canSpin", "internal/sync.runtime_doSpin", "internal/sync.throw", "internal/sync.runtime_nanotime", "internal/sync.runtime_SemacquireMutex", "sync/atomic.AddInt32", "(*internal/sync.Mutex).Unlock", "internal/race.ReleaseMerge", "(*internal/sync.Mutex).unlockSlow", "internal/sync.fatal", "internal/sync.runtime_Semrelease", "sync/atomic.LoadUint32", "sync/atomic.StoreUint32", "sync/atomic.LoadInt64", "sync/atomic.StoreInt64", "internal/bytealg.IndexByteString", "slices.overlaps[example.com/latchwork/latchwork/internal/waitlist.entry[*example.com/latchwork/latchwork/fivecolor.txn]]"], unfollowed := true, recurses := true, apart := false }
def LawS3292BRedeclareSaid : Prop := lawS3292BRedeclareRow.holds Ybaz.pinned (OpenSpec.ofChange lawS3292BRedeclareSpec)

/-- ITS FALSE NEIGHBOUR: 'it returns false'. Refute it at one input. -/
def lawS3292BRedeclareWrong : ChangeSpec := { name := "lawS3292BRedeclare", fn := fun _ => fun
  | [d1, d2, d3] => { results := [.lit (.bool false)], args := [d1, d2, d3] }
  | _ => none }
def LawS3292BRedeclareWrongFalsely : Prop := lawS3292BRedeclareRow.holds Ybaz.pinned (OpenSpec.ofChange lawS3292BRedeclareWrong)

/-- 'fivecolor.LawS3292BAgainstOther': WHATEVER THE INPUT: true; the input reads as it did. -/
def lawS3292BAgainstOtherSpec : ChangeSpec := { name := "lawS3292BAgainstOther", fn := fun _ => fun
  | [d1, d2, d3, d4, d5] => { results := [.lit (.bool true)], args := [d1, d2, d3, d4, d5] }
  | _ => none }
def lawS3292BAgainstOtherRow : OpenClaim := { program := "ybulkbpdqgreat", sum := "1a0032f694b1dee991d0f8c254d5c86ded145e797a77e451f498a7fd65220905", func := "example.com/latchwork/latchwork/fivecolor.LawS3292BAgainstOther", spec := "lawS3292BAgainstOther", inPlace := ["(*internal/sync.Mutex).Lock", "internal/race.Disable", "sync/atomic.CompareAndSwapInt32", "internal/race.Enable", "internal/race.Acquire", "(*internal/sync.Mutex).lockSlow", "internal/sync.runtime_canSpin", "internal/sync.runtime_doSpin", "internal/sync.throw", "internal/sync.runtime_nanotime", "internal/sync.runtime_SemacquireMutex", "sync/atomic.AddInt32", "(*internal/sync.Mutex).Unlock", "internal/race.ReleaseMerge", "(*internal/sync.Mutex).unlockSlow", "internal/sync.fatal", "internal/sync.runtime_Semrelease", "sync/atomic.LoadUint32", "sync/atomic.StoreUint32", "sync/atomic.LoadInt64", "sync/atomic.StoreInt64", "internal/bytealg.IndexByteString", "slices.overlaps[example.com/latchwork/latchwork/internal/waitlist.entry[*example.com/latchwork/latchwork/fivecolor.txn]]"], unfollowed := true, recurses := true, apart := false }
def LawS3292BAgainstOtherSaid : Prop := lawS3292BAgainstOtherRow.holds Ybaz.pinned (OpenSpec.ofChange lawS3292BAgainstOtherSpec)

/-- ITS FALSE NEIGHBOUR: 'it returns false'. Refute it at one input. -/
def lawS3292BAgainstOtherWrong : ChangeSpec := { name := "lawS3292BAgainstOther", fn := fun _ => fun
  | [d1, d2, d3, d4, d5] => { results := [.lit (.bool false)], args := [d1, d2, d3, d4, d5] }
  | _ => none }
def LawS3292BAgainstOtherWrongFalsely : Prop := lawS3292BAgainstOtherRow.holds Ybaz.pinned (OpenSpec.ofChange lawS3292BAgainstOtherWrong)

end Rows
end Go.Proofs.YbulkbpdqGreat
