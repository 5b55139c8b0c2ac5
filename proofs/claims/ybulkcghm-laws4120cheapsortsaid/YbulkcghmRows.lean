/-
  No cell of these rows narrows 'for every input' (looked for: loops, veiled, ifaces, maps, wideKeys, modest, calm, conditions, laid).
  DERIVED. THE GIVEN ROWS OF THIS SEAT. 7 by the template 'for every input the law returns true; each argument reads behind the call as it read before'; 0 by the template 'total and deterministic' (their statements: YbulkcghmTotals.lean).
  GIVEN WITH THE SEED: the statements are not yours to turn. If you find one false, say at which input.
  Laid BY PROGRAM, IN A SANDBOX (cutbox-rows.mjs): the forced cells as the released guide's own fill.sh prints them over the translation 954453f9ceab2ac1… (all of the seat's roots in one cut). By AI agents, Wed Nov 11 2026. No macro, syntax, notation, axiom, sorry.
-/
import Derived.Test.YbulkcghmChecked
import GoSem.Claim
import GoSem.ClaimJoined
import GoSem.ClaimMapViews
import Derived.JoinedTies
import Derived.KernelRfl
namespace Go.Proofs.Ybulkcghm
/- THE CELL 'sum', in the pinned program and in every row, IS THE sha256 OF THE DUMP (.gsa) THAT YbulkcghmProg.lean LOADS. Nothing in Lean hashes anything: it is a label: what it is worth is what the hold of that sum in a sandbox is worth. -/
noncomputable def Yba.pinned : Pinned := { name := "ybulkcghm", sum := "954453f9ceab2ac1edba3eba9380193b9ae46ce45073c718d8f3d36409a0b74d", checked := Yba.checked }
namespace Rows
def none {H : Type} : Left H := { results := [], args := [] }

/-- 'work-throttle.LawS4120AFresh': WHATEVER THE INPUT: true; the input reads as it did. -/
def lawS4120AFreshSpec : ChangeSpec := { name := "lawS4120AFresh", fn := fun _ => fun
  | [d1, d2, d3, d4] => { results := [.lit (.bool true)], args := [d1, d2, d3, d4] }
  | _ => none }
def lawS4120AFreshRow : OpenClaim := { program := "ybulkcghm", sum := "954453f9ceab2ac1edba3eba9380193b9ae46ce45073c718d8f3d36409a0b74d", func := "example.com/work-throttle/work-throttle.LawS4120AFresh", spec := "lawS4120AFresh", inPlace := ["(*internal/sync.Mutex).Lock", "internal/race.Disable", "sync/atomic.CompareAndSwapInt32", "internal/race.Enable", "internal/race.Acquire", "(*internal/sync.Mutex).lockSlow", "internal/sync.runtime_canSpin", "internal/sync.runtime_doSpin", "internal/sync.throw", "internal/sync.runtime_nanotime", "internal/sync.runtime_SemacquireMutex", "sync/atomic.AddInt32", "(*internal/sync.Mutex).Unlock", "internal/race.ReleaseMerge", "(*internal/sync.Mutex).unlockSlow", "internal/sync.fatal", "internal/sync.runtime_Semrelease", "math.Float64bits", "math.archMin", "math.Float64frombits"], unfollowed := true, recurses := true, apart := false }
def LawS4120AFreshSaid : Prop := lawS4120AFreshRow.holds Yba.pinned (OpenSpec.ofChange lawS4120AFreshSpec)

/-- ITS FALSE NEIGHBOUR: 'it returns false'. Refute it at one input. -/
def lawS4120AFreshWrong : ChangeSpec := { name := "lawS4120AFresh", fn := fun _ => fun
  | [d1, d2, d3, d4] => { results := [.lit (.bool false)], args := [d1, d2, d3, d4] }
  | _ => none }
def LawS4120AFreshWrongFalsely : Prop := lawS4120AFreshRow.holds Yba.pinned (OpenSpec.ofChange lawS4120AFreshWrong)

/-- 'work-throttle.LawS4120AScript': WHATEVER THE INPUT: true; the input reads as it did. -/
def lawS4120AScriptSpec : ChangeSpec := { name := "lawS4120AScript", fn := fun _ => fun
  | [d1, d2] => { results := [.lit (.bool true)], args := [d1, d2] }
  | _ => none }
def lawS4120AScriptRow : OpenClaim := { program := "ybulkcghm", sum := "954453f9ceab2ac1edba3eba9380193b9ae46ce45073c718d8f3d36409a0b74d", func := "example.com/work-throttle/work-throttle.LawS4120AScript", spec := "lawS4120AScript", inPlace := ["(*internal/sync.Mutex).Lock", "internal/race.Disable", "sync/atomic.CompareAndSwapInt32", "internal/race.Enable", "internal/race.Acquire", "(*internal/sync.Mutex).lockSlow", "internal/sync.runtime_canSpin", "internal/sync.runtime_doSpin", "internal/sync.throw", "internal/sync.runtime_nanotime", "internal/sync.runtime_SemacquireMutex", "sync/atomic.AddInt32", "(*internal/sync.Mutex).Unlock", "internal/race.ReleaseMerge", "(*internal/sync.Mutex).unlockSlow", "internal/sync.fatal", "internal/sync.runtime_Semrelease", "math.Float64bits", "math.archMin", "math.Float64frombits"], unfollowed := true, recurses := true, apart := false }
def LawS4120AScriptSaid : Prop := lawS4120AScriptRow.holds Yba.pinned (OpenSpec.ofChange lawS4120AScriptSpec)

/-- ITS FALSE NEIGHBOUR: 'it returns false'. Refute it at one input. -/
def lawS4120AScriptWrong : ChangeSpec := { name := "lawS4120AScript", fn := fun _ => fun
  | [d1, d2] => { results := [.lit (.bool false)], args := [d1, d2] }
  | _ => none }
def LawS4120AScriptWrongFalsely : Prop := lawS4120AScriptRow.holds Yba.pinned (OpenSpec.ofChange lawS4120AScriptWrong)

/-- 'work-throttle.LawS4120ARefill': WHATEVER THE INPUT: true; the input reads as it did. -/
def lawS4120ARefillSpec : ChangeSpec := { name := "lawS4120ARefill", fn := fun _ => fun
  | [d1, d2, d3, d4] => { results := [.lit (.bool true)], args := [d1, d2, d3, d4] }
  | _ => none }
def lawS4120ARefillRow : OpenClaim := { program := "ybulkcghm", sum := "954453f9ceab2ac1edba3eba9380193b9ae46ce45073c718d8f3d36409a0b74d", func := "example.com/work-throttle/work-throttle.LawS4120ARefill", spec := "lawS4120ARefill", inPlace := ["(*internal/sync.Mutex).Lock", "internal/race.Disable", "sync/atomic.CompareAndSwapInt32", "internal/race.Enable", "internal/race.Acquire", "(*internal/sync.Mutex).lockSlow", "internal/sync.runtime_canSpin", "internal/sync.runtime_doSpin", "internal/sync.throw", "internal/sync.runtime_nanotime", "internal/sync.runtime_SemacquireMutex", "sync/atomic.AddInt32", "(*internal/sync.Mutex).Unlock", "internal/race.ReleaseMerge", "(*internal/sync.Mutex).unlockSlow", "internal/sync.fatal", "internal/sync.runtime_Semrelease", "math.Float64bits", "math.archMin", "math.Float64frombits"], unfollowed := true, recurses := true, apart := false }
def LawS4120ARefillSaid : Prop := lawS4120ARefillRow.holds Yba.pinned (OpenSpec.ofChange lawS4120ARefillSpec)

/-- ITS FALSE NEIGHBOUR: 'it returns false'. Refute it at one input. -/
def lawS4120ARefillWrong : ChangeSpec := { name := "lawS4120ARefill", fn := fun _ => fun
  | [d1, d2, d3, d4] => { results := [.lit (.bool false)], args := [d1, d2, d3, d4] }
  | _ => none }
def LawS4120ARefillWrongFalsely : Prop := lawS4120ARefillRow.holds Yba.pinned (OpenSpec.ofChange lawS4120ARefillWrong)

/-- 'work-throttle.LawS4120BInsert': WHATEVER THE INPUT: true; the input reads as it did. -/
def lawS4120BInsertSpec : ChangeSpec := { name := "lawS4120BInsert", fn := fun _ => fun
  | [d] => { results := [.lit (.bool true)], args := [d] }
  | _ => none }
def lawS4120BInsertRow : OpenClaim := { program := "ybulkcghm", sum := "954453f9ceab2ac1edba3eba9380193b9ae46ce45073c718d8f3d36409a0b74d", func := "example.com/work-throttle/work-throttle.LawS4120BInsert", spec := "lawS4120BInsert", recurses := true, apart := false }
def LawS4120BInsertSaid : Prop := lawS4120BInsertRow.holds Yba.pinned (OpenSpec.ofChange lawS4120BInsertSpec)

/-- ITS FALSE NEIGHBOUR: 'it returns false'. Refute it at one input. -/
def lawS4120BInsertWrong : ChangeSpec := { name := "lawS4120BInsert", fn := fun _ => fun
  | [d] => { results := [.lit (.bool false)], args := [d] }
  | _ => none }
def LawS4120BInsertWrongFalsely : Prop := lawS4120BInsertRow.holds Yba.pinned (OpenSpec.ofChange lawS4120BInsertWrong)

/-- 'work-throttle.LawS4120BRemoveFirst': WHATEVER THE INPUT: true; the input reads as it did. -/
def lawS4120BRemoveFirstSpec : ChangeSpec := { name := "lawS4120BRemoveFirst", fn := fun _ => fun
  | [d1, d2] => { results := [.lit (.bool true)], args := [d1, d2] }
  | _ => none }
def lawS4120BRemoveFirstRow : OpenClaim := { program := "ybulkcghm", sum := "954453f9ceab2ac1edba3eba9380193b9ae46ce45073c718d8f3d36409a0b74d", func := "example.com/work-throttle/work-throttle.LawS4120BRemoveFirst", spec := "lawS4120BRemoveFirst", recurses := true, apart := false }
def LawS4120BRemoveFirstSaid : Prop := lawS4120BRemoveFirstRow.holds Yba.pinned (OpenSpec.ofChange lawS4120BRemoveFirstSpec)

/-- ITS FALSE NEIGHBOUR: 'it returns false'. Refute it at one input. -/
def lawS4120BRemoveFirstWrong : ChangeSpec := { name := "lawS4120BRemoveFirst", fn := fun _ => fun
  | [d1, d2] => { results := [.lit (.bool false)], args := [d1, d2] }
  | _ => none }
def LawS4120BRemoveFirstWrongFalsely : Prop := lawS4120BRemoveFirstRow.holds Yba.pinned (OpenSpec.ofChange lawS4120BRemoveFirstWrong)

/-- 'clock.LawS4120CPopLast': WHATEVER THE INPUT: true; the input reads as it did. -/
def lawS4120CPopLastSpec : ChangeSpec := { name := "lawS4120CPopLast", fn := fun _ => fun
  | [d] => { results := [.lit (.bool true)], args := [d] }
  | _ => none }
def lawS4120CPopLastRow : OpenClaim := { program := "ybulkcghm", sum := "954453f9ceab2ac1edba3eba9380193b9ae46ce45073c718d8f3d36409a0b74d", func := "example.com/work-throttle/work-throttle/clock.LawS4120CPopLast", spec := "lawS4120CPopLast", apart := false }
def LawS4120CPopLastSaid : Prop := lawS4120CPopLastRow.holds Yba.pinned (OpenSpec.ofChange lawS4120CPopLastSpec)

/-- ITS FALSE NEIGHBOUR: 'it returns false'. Refute it at one input. -/
def lawS4120CPopLastWrong : ChangeSpec := { name := "lawS4120CPopLast", fn := fun _ => fun
  | [d] => { results := [.lit (.bool false)], args := [d] }
  | _ => none }
def LawS4120CPopLastWrongFalsely : Prop := lawS4120CPopLastRow.holds Yba.pinned (OpenSpec.ofChange lawS4120CPopLastWrong)

/-- 'clock.LawS4120CHeapSort': WHATEVER THE INPUT: true; the input reads as it did. -/
def lawS4120CHeapSortSpec : ChangeSpec := { name := "lawS4120CHeapSort", fn := fun _ => fun
  | [d] => { results := [.lit (.bool true)], args := [d] }
  | _ => none }
def lawS4120CHeapSortRow : OpenClaim := { program := "ybulkcghm", sum := "954453f9ceab2ac1edba3eba9380193b9ae46ce45073c718d8f3d36409a0b74d", func := "example.com/work-throttle/work-throttle/clock.LawS4120CHeapSort", spec := "lawS4120CHeapSort", unfollowed := true, recurses := true, apart := false }
def LawS4120CHeapSortSaid : Prop := lawS4120CHeapSortRow.holds Yba.pinned (OpenSpec.ofChange lawS4120CHeapSortSpec)

/-- ITS FALSE NEIGHBOUR: 'it returns false'. Refute it at one input. -/
def lawS4120CHeapSortWrong : ChangeSpec := { name := "lawS4120CHeapSort", fn := fun _ => fun
  | [d] => { results := [.lit (.bool false)], args := [d] }
  | _ => none }
def LawS4120CHeapSortWrongFalsely : Prop := lawS4120CHeapSortRow.holds Yba.pinned (OpenSpec.ofChange lawS4120CHeapSortWrong)

end Rows
end Go.Proofs.Ybulkcghm
