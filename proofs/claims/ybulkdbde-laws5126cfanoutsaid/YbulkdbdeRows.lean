/-
  No cell of these rows narrows 'for every input' (looked for: loops, veiled, ifaces, maps, wideKeys, modest, calm, conditions, laid).
  DERIVED. THE GIVEN ROWS OF THIS SEAT. 3 by the template 'for every input the law returns true; each argument reads behind the call as it read before'; 0 by the template 'total and deterministic' (their statements: YbulkdbdeTotals.lean).
  GIVEN WITH THE SEED: the statements are not yours to turn. If you find one false, say at which input.
  Laid BY PROGRAM, IN A SANDBOX (cutbox-rows.mjs): the forced cells as the released guide's own fill.sh prints them over the translation 27febda239a04336… (all of the seat's roots in one cut). By AI agents, Wed Nov 11 2026. No macro, syntax, notation, axiom, sorry.
-/
import Derived.Test.YbulkdbdeChecked
import GoSem.Claim
import GoSem.ClaimJoined
import GoSem.ClaimMapViews
import Derived.JoinedTies
import Derived.KernelRfl
namespace Go.Proofs.Ybulkdbde
/- THE CELL 'sum', in the pinned program and in every row, IS THE sha256 OF THE DUMP (.gsa) THAT YbulkdbdeProg.lean LOADS. Nothing in Lean hashes anything: it is a label: what it is worth is what the hold of that sum in a sandbox is worth. -/
noncomputable def Yba.pinned : Pinned := { name := "ybulkdbde", sum := "27febda239a04336f22f9df149bf2c0ce13cdbfe0645983a292a09aede7ced81", checked := Yba.checked }
namespace Rows
def none {H : Type} : Left H := { results := [], args := [] }

/-- 'httpsyntax.LawS5126AModel': WHATEVER THE INPUT: true; the input reads as it did. -/
def lawS5126AModelSpec : ChangeSpec := { name := "lawS5126AModel", fn := fun _ => fun
  | [d1, d2] => { results := [.lit (.bool true)], args := [d1, d2] }
  | _ => none }
def lawS5126AModelRow : OpenClaim := { program := "ybulkdbde", sum := "27febda239a04336f22f9df149bf2c0ce13cdbfe0645983a292a09aede7ced81", func := "example.com/halyard/halyard/internal/httpsyntax.LawS5126AModel", spec := "lawS5126AModel", inPlace := ["internal/bytealg.IndexByteString", "internal/bytealg.IndexString"], named := ["internal/bytealg.MaxLen"], apart := false }
def LawS5126AModelSaid : Prop := lawS5126AModelRow.holds Yba.pinned (OpenSpec.ofChange lawS5126AModelSpec)

/-- ITS FALSE NEIGHBOUR: 'it returns false'. Refute it at one input. -/
def lawS5126AModelWrong : ChangeSpec := { name := "lawS5126AModel", fn := fun _ => fun
  | [d1, d2] => { results := [.lit (.bool false)], args := [d1, d2] }
  | _ => none }
def LawS5126AModelWrongFalsely : Prop := lawS5126AModelRow.holds Yba.pinned (OpenSpec.ofChange lawS5126AModelWrong)

/-- 'httpsyntax.LawS5126ANoExtra': WHATEVER THE INPUT: true; the input reads as it did. -/
def lawS5126ANoExtraSpec : ChangeSpec := { name := "lawS5126ANoExtra", fn := fun _ => fun
  | [d] => { results := [.lit (.bool true)], args := [d] }
  | _ => none }
def lawS5126ANoExtraRow : OpenClaim := { program := "ybulkdbde", sum := "27febda239a04336f22f9df149bf2c0ce13cdbfe0645983a292a09aede7ced81", func := "example.com/halyard/halyard/internal/httpsyntax.LawS5126ANoExtra", spec := "lawS5126ANoExtra", inPlace := ["internal/bytealg.IndexByteString", "internal/bytealg.IndexString"], named := ["internal/bytealg.MaxLen"], apart := false }
def LawS5126ANoExtraSaid : Prop := lawS5126ANoExtraRow.holds Yba.pinned (OpenSpec.ofChange lawS5126ANoExtraSpec)

/-- ITS FALSE NEIGHBOUR: 'it returns false'. Refute it at one input. -/
def lawS5126ANoExtraWrong : ChangeSpec := { name := "lawS5126ANoExtra", fn := fun _ => fun
  | [d] => { results := [.lit (.bool false)], args := [d] }
  | _ => none }
def LawS5126ANoExtraWrongFalsely : Prop := lawS5126ANoExtraRow.holds Yba.pinned (OpenSpec.ofChange lawS5126ANoExtraWrong)

/-- 'halyard.LawS5126CFanOut': WHATEVER THE INPUT: true; the input reads as it did. -/
def lawS5126CFanOutSpec : ChangeSpec := { name := "lawS5126CFanOut", fn := fun _ => fun
  | [d1, d2, d3, d4, d5, d6, d7, d8, d9, d10] => { results := [.lit (.bool true)], args := [d1, d2, d3, d4, d5, d6, d7, d8, d9, d10] }
  | _ => none }
def lawS5126CFanOutRow : OpenClaim := { program := "ybulkdbde", sum := "27febda239a04336f22f9df149bf2c0ce13cdbfe0645983a292a09aede7ced81", func := "example.com/halyard/halyard.LawS5126CFanOut", spec := "lawS5126CFanOut", inPlace := ["(*sync.RWMutex).Lock", "internal/race.Read", "internal/race.Disable", "(*internal/sync.Mutex).Lock", "sync/atomic.CompareAndSwapInt32", "internal/race.Enable", "internal/race.Acquire", "(*internal/sync.Mutex).lockSlow", "internal/sync.runtime_canSpin", "internal/sync.runtime_doSpin", "internal/sync.throw", "internal/sync.runtime_nanotime", "internal/sync.runtime_SemacquireMutex", "sync/atomic.AddInt32", "sync.runtime_SemacquireRWMutex", "(*sync.RWMutex).Unlock", "internal/race.Release", "internal/race.ReleaseMerge", "sync.fatal", "sync.runtime_Semrelease", "(*internal/sync.Mutex).Unlock", "(*internal/sync.Mutex).unlockSlow", "internal/sync.fatal", "internal/sync.runtime_Semrelease", "(*sync.RWMutex).RLock", "sync.runtime_SemacquireRWMutexR", "(*sync.RWMutex).RUnlock", "(*sync.RWMutex).rUnlockSlow"], unfollowed := true, recurses := true, apart := false }
def LawS5126CFanOutSaid : Prop := lawS5126CFanOutRow.holds Yba.pinned (OpenSpec.ofChange lawS5126CFanOutSpec)

/-- ITS FALSE NEIGHBOUR: 'it returns false'. Refute it at one input. -/
def lawS5126CFanOutWrong : ChangeSpec := { name := "lawS5126CFanOut", fn := fun _ => fun
  | [d1, d2, d3, d4, d5, d6, d7, d8, d9, d10] => { results := [.lit (.bool false)], args := [d1, d2, d3, d4, d5, d6, d7, d8, d9, d10] }
  | _ => none }
def LawS5126CFanOutWrongFalsely : Prop := lawS5126CFanOutRow.holds Yba.pinned (OpenSpec.ofChange lawS5126CFanOutWrong)

end Rows
end Go.Proofs.Ybulkdbde
