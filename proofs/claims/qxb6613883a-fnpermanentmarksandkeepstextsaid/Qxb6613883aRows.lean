/-
  No cell of these rows narrows 'for every input' (looked for: loops, veiled, ifaces, maps, wideKeys, modest, calm, conditions, laid).
  DERIVED. THE GIVEN ROWS OF THIS SEAT. 2 by the template 'for every input the law returns true; each argument reads behind the call as it read before'; 0 by the template 'total and deterministic' (their statements: Qxb6613883aTotals.lean).
  GIVEN WITH THE SEED: the statements are not yours to turn. If you find one false, say at which input.
  Laid BY PROGRAM, IN A SANDBOX (cutbox-rows.mjs): the forced cells as the released guide's own fill.sh prints them over the translation a9928bacaa3a797f… (all of the seat's roots in one cut). By AI agents, Wed Nov 11 2026. No macro, syntax, notation, axiom, sorry.
-/
import Derived.Test.Qxb6613883aChecked
import GoSem.Claim
import GoSem.ClaimJoined
import GoSem.ClaimMapViews
import Derived.JoinedTies
import Derived.KernelRfl
namespace Go.Proofs.Qxb6613883a
/- THE CELL 'sum', in the pinned program and in every row, IS THE sha256 OF THE DUMP (.gsa) THAT Qxb6613883aProg.lean LOADS. Nothing in Lean hashes anything: it is a label: what it is worth is what the hold of that sum in a sandbox is worth. -/
noncomputable def Try.pinned : Pinned := { name := "qxb6613883a", sum := "a9928bacaa3a797f7da043bf6b19754bdf856603e789f7136a2cf4b110587a4b", checked := Try.checked }
namespace Rows
def none {H : Type} : Left H := { results := [], args := [] }

/-- 'zzlaws_worker_b1.FnPermanentMarksAndKeepsText': WHATEVER THE INPUT: true; the input reads as it did. -/
def fnPermanentMarksAndKeepsTextSpec : ChangeSpec := { name := "fnPermanentMarksAndKeepsText", fn := fun _ => fun
  | [d] => { results := [.lit (.bool true)], args := [d] }
  | _ => none }
def fnPermanentMarksAndKeepsTextRow : OpenClaim := { program := "qxb6613883a", sum := "a9928bacaa3a797f7da043bf6b19754bdf856603e789f7136a2cf4b110587a4b", func := "example.com/tenure/tenure/zzlaws_worker_b1.FnPermanentMarksAndKeepsText", spec := "fnPermanentMarksAndKeepsText", unfollowed := true, recurses := true, apart := false }
def FnPermanentMarksAndKeepsTextSaid : Prop := fnPermanentMarksAndKeepsTextRow.holds Try.pinned (OpenSpec.ofChange fnPermanentMarksAndKeepsTextSpec)

/-- ITS FALSE NEIGHBOUR: 'it returns false'. Refute it at one input. -/
def fnPermanentMarksAndKeepsTextWrong : ChangeSpec := { name := "fnPermanentMarksAndKeepsText", fn := fun _ => fun
  | [d] => { results := [.lit (.bool false)], args := [d] }
  | _ => none }
def FnPermanentMarksAndKeepsTextWrongFalsely : Prop := fnPermanentMarksAndKeepsTextRow.holds Try.pinned (OpenSpec.ofChange fnPermanentMarksAndKeepsTextWrong)

/-- 'zzlaws_worker_b1.FnSettleOnceOverScript': WHATEVER THE INPUT: true; the input reads as it did. -/
def fnSettleOnceOverScriptSpec : ChangeSpec := { name := "fnSettleOnceOverScript", fn := fun _ => fun
  | [d1, d2, d3, d4] => { results := [.lit (.bool true)], args := [d1, d2, d3, d4] }
  | _ => none }
def fnSettleOnceOverScriptRow : OpenClaim := { program := "qxb6613883a", sum := "a9928bacaa3a797f7da043bf6b19754bdf856603e789f7136a2cf4b110587a4b", func := "example.com/tenure/tenure/zzlaws_worker_b1.FnSettleOnceOverScript", spec := "fnSettleOnceOverScript", inPlace := ["sync/atomic.LoadUint32", "(*internal/sync.Mutex).Lock", "internal/race.Disable", "sync/atomic.CompareAndSwapInt32", "internal/race.Enable", "internal/race.Acquire", "(*internal/sync.Mutex).lockSlow", "internal/sync.runtime_canSpin", "internal/sync.runtime_doSpin", "internal/sync.throw", "internal/sync.runtime_nanotime", "internal/sync.runtime_SemacquireMutex", "sync/atomic.AddInt32", "(*internal/sync.Mutex).Unlock", "internal/race.ReleaseMerge", "(*internal/sync.Mutex).unlockSlow", "internal/sync.fatal", "internal/sync.runtime_Semrelease", "sync/atomic.StoreUint32"], unfollowed := true, recurses := true, apart := false }
def FnSettleOnceOverScriptSaid : Prop := fnSettleOnceOverScriptRow.holds Try.pinned (OpenSpec.ofChange fnSettleOnceOverScriptSpec)

/-- ITS FALSE NEIGHBOUR: 'it returns false'. Refute it at one input. -/
def fnSettleOnceOverScriptWrong : ChangeSpec := { name := "fnSettleOnceOverScript", fn := fun _ => fun
  | [d1, d2, d3, d4] => { results := [.lit (.bool false)], args := [d1, d2, d3, d4] }
  | _ => none }
def FnSettleOnceOverScriptWrongFalsely : Prop := fnSettleOnceOverScriptRow.holds Try.pinned (OpenSpec.ofChange fnSettleOnceOverScriptWrong)

end Rows
end Go.Proofs.Qxb6613883a
