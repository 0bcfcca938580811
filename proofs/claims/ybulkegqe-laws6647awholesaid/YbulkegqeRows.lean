/-
  No cell of these rows narrows 'for every input' (looked for: loops, veiled, ifaces, maps, wideKeys, modest, calm, conditions, laid).
  DERIVED. THE GIVEN ROWS OF THIS SEAT. 2 by the template 'for every input the law returns true; each argument reads behind the call as it read before'; 0 by the template 'total and deterministic' (their statements: YbulkegqeTotals.lean).
  GIVEN WITH THE SEED: the statements are not yours to turn. If you find one false, say at which input.
  Laid BY PROGRAM, IN A SANDBOX (cutbox-rows.mjs): the forced cells as the released guide's own fill.sh prints them over the translation c9918eff9becb803… (all of the seat's roots in one cut). By AI agents, Wed Nov 11 2026. No macro, syntax, notation, axiom, sorry.
-/
import Derived.Test.YbulkegqeChecked
import GoSem.Claim
import GoSem.ClaimJoined
import GoSem.ClaimMapViews
import Derived.JoinedTies
import Derived.KernelRfl
namespace Go.Proofs.Ybulkegqe
/- THE CELL 'sum', in the pinned program and in every row, IS THE sha256 OF THE DUMP (.gsa) THAT YbulkegqeProg.lean LOADS. Nothing in Lean hashes anything: it is a label: what it is worth is what the hold of that sum in a sandbox is worth. -/
noncomputable def Yba.pinned : Pinned := { name := "ybulkegqe", sum := "c9918eff9becb803895a7428686649cb7249576152c076b4b98f5b75b0b57f04", checked := Yba.checked }
namespace Rows
def none {H : Type} : Left H := { results := [], args := [] }

/-- 'selector.LawS6647AWhole': WHATEVER THE INPUT: true; the input reads as it did. -/
def lawS6647AWholeSpec : ChangeSpec := { name := "lawS6647AWhole", fn := fun _ => fun
  | [d1, d2] => { results := [.lit (.bool true)], args := [d1, d2] }
  | _ => none }
def lawS6647AWholeRow : OpenClaim := { program := "ybulkegqe", sum := "c9918eff9becb803895a7428686649cb7249576152c076b4b98f5b75b0b57f04", func := "example.com/revwatch/revwatch/selector.LawS6647AWhole", spec := "lawS6647AWhole", inPlace := ["internal/abi.NoEscape", "internal/bytealg.MakeNoZero"], unfollowed := true, recurses := true, plainKeys := false, apart := false }
def LawS6647AWholeSaid : Prop := lawS6647AWholeRow.holds Yba.pinned (OpenSpec.ofChange lawS6647AWholeSpec)

/-- ITS FALSE NEIGHBOUR: 'it returns false'. Refute it at one input. -/
def lawS6647AWholeWrong : ChangeSpec := { name := "lawS6647AWhole", fn := fun _ => fun
  | [d1, d2] => { results := [.lit (.bool false)], args := [d1, d2] }
  | _ => none }
def LawS6647AWholeWrongFalsely : Prop := lawS6647AWholeRow.holds Yba.pinned (OpenSpec.ofChange lawS6647AWholeWrong)

/-- 'store.LawS6647CWhole': WHATEVER THE INPUT: true; the input reads as it did. -/
def lawS6647CWholeSpec : ChangeSpec := { name := "lawS6647CWhole", fn := fun _ => fun
  | [d1, d2] => { results := [.lit (.bool true)], args := [d1, d2] }
  | _ => none }
def lawS6647CWholeRow : OpenClaim := { program := "ybulkegqe", sum := "c9918eff9becb803895a7428686649cb7249576152c076b4b98f5b75b0b57f04", func := "example.com/revwatch/revwatch/store.LawS6647CWhole", spec := "lawS6647CWhole", inPlace := ["(*sync.RWMutex).TryLock", "internal/race.Read", "internal/race.Disable", "(*internal/sync.Mutex).TryLock", "internal/race.Enable", "sync/atomic.CompareAndSwapInt32", "internal/race.Acquire", "(*internal/sync.Mutex).Unlock", "internal/race.ReleaseMerge", "sync/atomic.AddInt32", "(*internal/sync.Mutex).unlockSlow", "internal/sync.fatal", "internal/sync.runtime_Semrelease", "(*sync.RWMutex).Unlock", "internal/race.Release", "sync.fatal", "sync.runtime_Semrelease", "(*sync.RWMutex).RLock", "sync.runtime_SemacquireRWMutexR", "(*sync.RWMutex).RUnlock", "(*sync.RWMutex).rUnlockSlow"], unfollowed := true, recurses := true, plainKeys := false, apart := false }
def LawS6647CWholeSaid : Prop := lawS6647CWholeRow.holds Yba.pinned (OpenSpec.ofChange lawS6647CWholeSpec)

/-- ITS FALSE NEIGHBOUR: 'it returns false'. Refute it at one input. -/
def lawS6647CWholeWrong : ChangeSpec := { name := "lawS6647CWhole", fn := fun _ => fun
  | [d1, d2] => { results := [.lit (.bool false)], args := [d1, d2] }
  | _ => none }
def LawS6647CWholeWrongFalsely : Prop := lawS6647CWholeRow.holds Yba.pinned (OpenSpec.ofChange lawS6647CWholeWrong)

end Rows
end Go.Proofs.Ybulkegqe
