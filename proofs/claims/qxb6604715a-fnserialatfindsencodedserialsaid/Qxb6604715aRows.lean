/-
  No cell of these rows narrows 'for every input' (looked for: loops, veiled, ifaces, maps, wideKeys, modest, calm, conditions, laid).
  DERIVED. THE GIVEN ROWS OF THIS SEAT. 4 by the template 'for every input the law returns true; each argument reads behind the call as it read before'; 0 by the template 'total and deterministic' (their statements: Qxb6604715aTotals.lean).
  GIVEN WITH THE SEED: the statements are not yours to turn. If you find one false, say at which input.
  Laid BY PROGRAM, IN A SANDBOX (cutbox-rows.mjs): the forced cells as the released guide's own fill.sh prints them over the translation fb8852fdf4f43afc… (all of the seat's roots in one cut). By AI agents, Wed Nov 11 2026. No macro, syntax, notation, axiom, sorry.
-/
import Derived.Test.Qxb6604715aChecked
import GoSem.Claim
import GoSem.ClaimJoined
import GoSem.ClaimMapViews
import Derived.JoinedTies
import Derived.KernelRfl
namespace Go.Proofs.Qxb6604715a
/- THE CELL 'sum', in the pinned program and in every row, IS THE sha256 OF THE DUMP (.gsa) THAT Qxb6604715aProg.lean LOADS. Nothing in Lean hashes anything: it is a label: what it is worth is what the hold of that sum in a sandbox is worth. -/
noncomputable def Try.pinned : Pinned := { name := "qxb6604715a", sum := "fb8852fdf4f43afc5f8ac2797c8f69f4fbacddde28712682b88f264ca925a36b", checked := Try.checked }
namespace Rows
def none {H : Type} : Left H := { results := [], args := [] }

/-- 'zzlaws_root_b1.FnOnErrorTouchesOnlyReport': WHATEVER THE INPUT: true; the input reads as it did. -/
def fnOnErrorTouchesOnlyReportSpec : ChangeSpec := { name := "fnOnErrorTouchesOnlyReport", fn := fun _ => fun
  | [d1, d2] => { results := [.lit (.bool true)], args := [d1, d2] }
  | _ => none }
def fnOnErrorTouchesOnlyReportRow : OpenClaim := { program := "qxb6604715a", sum := "fb8852fdf4f43afc5f8ac2797c8f69f4fbacddde28712682b88f264ca925a36b", func := "example.com/revocant/revocant/zzlaws_root_b1.FnOnErrorTouchesOnlyReport", spec := "fnOnErrorTouchesOnlyReport", unfollowed := true, recurses := true, plainKeys := false, apart := false }
def FnOnErrorTouchesOnlyReportSaid : Prop := fnOnErrorTouchesOnlyReportRow.holds Try.pinned (OpenSpec.ofChange fnOnErrorTouchesOnlyReportSpec)

/-- ITS FALSE NEIGHBOUR: 'it returns false'. Refute it at one input. -/
def fnOnErrorTouchesOnlyReportWrong : ChangeSpec := { name := "fnOnErrorTouchesOnlyReport", fn := fun _ => fun
  | [d1, d2] => { results := [.lit (.bool false)], args := [d1, d2] }
  | _ => none }
def FnOnErrorTouchesOnlyReportWrongFalsely : Prop := fnOnErrorTouchesOnlyReportRow.holds Try.pinned (OpenSpec.ofChange fnOnErrorTouchesOnlyReportWrong)

/-- 'zzlaws_root_b1.FnSerialAtFindsEncodedSerial': WHATEVER THE INPUT: true; the input reads as it did. -/
def fnSerialAtFindsEncodedSerialSpec : ChangeSpec := { name := "fnSerialAtFindsEncodedSerial", fn := fun _ => fun
  | [d1, d2, d3, d4] => { results := [.lit (.bool true)], args := [d1, d2, d3, d4] }
  | _ => none }
def fnSerialAtFindsEncodedSerialRow : OpenClaim := { program := "qxb6604715a", sum := "fb8852fdf4f43afc5f8ac2797c8f69f4fbacddde28712682b88f264ca925a36b", func := "example.com/revocant/revocant/zzlaws_root_b1.FnSerialAtFindsEncodedSerial", spec := "fnSerialAtFindsEncodedSerial", plainKeys := false, apart := false }
def FnSerialAtFindsEncodedSerialSaid : Prop := fnSerialAtFindsEncodedSerialRow.holds Try.pinned (OpenSpec.ofChange fnSerialAtFindsEncodedSerialSpec)

/-- ITS FALSE NEIGHBOUR: 'it returns false'. Refute it at one input. -/
def fnSerialAtFindsEncodedSerialWrong : ChangeSpec := { name := "fnSerialAtFindsEncodedSerial", fn := fun _ => fun
  | [d1, d2, d3, d4] => { results := [.lit (.bool false)], args := [d1, d2, d3, d4] }
  | _ => none }
def FnSerialAtFindsEncodedSerialWrongFalsely : Prop := fnSerialAtFindsEncodedSerialRow.holds Try.pinned (OpenSpec.ofChange fnSerialAtFindsEncodedSerialWrong)

/-- 'zzlaws_root_b1.FnKeyCheckFirstAnswerSticks': WHATEVER THE INPUT: true; the input reads as it did. -/
def fnKeyCheckFirstAnswerSticksSpec : ChangeSpec := { name := "fnKeyCheckFirstAnswerSticks", fn := fun _ => fun
  | [d1, d2] => { results := [.lit (.bool true)], args := [d1, d2] }
  | _ => none }
def fnKeyCheckFirstAnswerSticksRow : OpenClaim := { program := "qxb6604715a", sum := "fb8852fdf4f43afc5f8ac2797c8f69f4fbacddde28712682b88f264ca925a36b", func := "example.com/revocant/revocant/zzlaws_root_b1.FnKeyCheckFirstAnswerSticks", spec := "fnKeyCheckFirstAnswerSticks", inPlace := ["sync/atomic.LoadUint32", "(*internal/sync.Mutex).Lock", "internal/race.Disable", "sync/atomic.CompareAndSwapInt32", "internal/race.Enable", "internal/race.Acquire", "(*internal/sync.Mutex).lockSlow", "internal/sync.runtime_canSpin", "internal/sync.runtime_doSpin", "internal/sync.throw", "internal/sync.runtime_nanotime", "internal/sync.runtime_SemacquireMutex", "sync/atomic.AddInt32", "(*internal/sync.Mutex).Unlock", "internal/race.ReleaseMerge", "(*internal/sync.Mutex).unlockSlow", "internal/sync.fatal", "internal/sync.runtime_Semrelease", "sync/atomic.StoreUint32"], unfollowed := true, recurses := true, plainKeys := false, apart := false }
def FnKeyCheckFirstAnswerSticksSaid : Prop := fnKeyCheckFirstAnswerSticksRow.holds Try.pinned (OpenSpec.ofChange fnKeyCheckFirstAnswerSticksSpec)

/-- ITS FALSE NEIGHBOUR: 'it returns false'. Refute it at one input. -/
def fnKeyCheckFirstAnswerSticksWrong : ChangeSpec := { name := "fnKeyCheckFirstAnswerSticks", fn := fun _ => fun
  | [d1, d2] => { results := [.lit (.bool false)], args := [d1, d2] }
  | _ => none }
def FnKeyCheckFirstAnswerSticksWrongFalsely : Prop := fnKeyCheckFirstAnswerSticksRow.holds Try.pinned (OpenSpec.ofChange fnKeyCheckFirstAnswerSticksWrong)

/-- 'zzlaws_root_b1.FnKeyCheckAsksOnlyOnce': WHATEVER THE INPUT: true; the input reads as it did. -/
def fnKeyCheckAsksOnlyOnceSpec : ChangeSpec := { name := "fnKeyCheckAsksOnlyOnce", fn := fun _ => fun
  | [d1, d2] => { results := [.lit (.bool true)], args := [d1, d2] }
  | _ => none }
def fnKeyCheckAsksOnlyOnceRow : OpenClaim := { program := "qxb6604715a", sum := "fb8852fdf4f43afc5f8ac2797c8f69f4fbacddde28712682b88f264ca925a36b", func := "example.com/revocant/revocant/zzlaws_root_b1.FnKeyCheckAsksOnlyOnce", spec := "fnKeyCheckAsksOnlyOnce", inPlace := ["sync/atomic.LoadUint32", "(*internal/sync.Mutex).Lock", "internal/race.Disable", "sync/atomic.CompareAndSwapInt32", "internal/race.Enable", "internal/race.Acquire", "(*internal/sync.Mutex).lockSlow", "internal/sync.runtime_canSpin", "internal/sync.runtime_doSpin", "internal/sync.throw", "internal/sync.runtime_nanotime", "internal/sync.runtime_SemacquireMutex", "sync/atomic.AddInt32", "(*internal/sync.Mutex).Unlock", "internal/race.ReleaseMerge", "(*internal/sync.Mutex).unlockSlow", "internal/sync.fatal", "internal/sync.runtime_Semrelease", "sync/atomic.StoreUint32"], unfollowed := true, recurses := true, plainKeys := false, apart := false }
def FnKeyCheckAsksOnlyOnceSaid : Prop := fnKeyCheckAsksOnlyOnceRow.holds Try.pinned (OpenSpec.ofChange fnKeyCheckAsksOnlyOnceSpec)

/-- ITS FALSE NEIGHBOUR: 'it returns false'. Refute it at one input. -/
def fnKeyCheckAsksOnlyOnceWrong : ChangeSpec := { name := "fnKeyCheckAsksOnlyOnce", fn := fun _ => fun
  | [d1, d2] => { results := [.lit (.bool false)], args := [d1, d2] }
  | _ => none }
def FnKeyCheckAsksOnlyOnceWrongFalsely : Prop := fnKeyCheckAsksOnlyOnceRow.holds Try.pinned (OpenSpec.ofChange fnKeyCheckAsksOnlyOnceWrong)

end Rows
end Go.Proofs.Qxb6604715a
