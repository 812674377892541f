/-
  No cell of these rows narrows 'for every input' (looked for: loops, veiled, ifaces, maps, wideKeys, modest, calm, conditions, laid).
  DERIVED. THE GIVEN ROWS OF THIS SEAT. 2 by the template 'for every input the law returns true; each argument reads behind the call as it read before'; 0 by the template 'total and deterministic' (their statements: Qxb6630621aTotals.lean).
  GIVEN WITH THE SEED: the statements are not yours to turn. If you find one false, say at which input.
  Laid BY PROGRAM, IN A SANDBOX (cutbox-rows.mjs): the forced cells as the released guide's own fill.sh prints them over the translation 97f1c95ae9b2ffd0… (all of the seat's roots in one cut). By AI agents, Wed Nov 11 2026. No macro, syntax, notation, axiom, sorry.
-/
import Derived.Test.Qxb6630621aChecked
import GoSem.Claim
import GoSem.ClaimJoined
import GoSem.ClaimMapViews
import Derived.JoinedTies
import Derived.KernelRfl
namespace Go.Proofs.Qxb6630621a
/- THE CELL 'sum', in the pinned program and in every row, IS THE sha256 OF THE DUMP (.gsa) THAT Qxb6630621aProg.lean LOADS. Nothing in Lean hashes anything: it is a label: what it is worth is what the hold of that sum in a sandbox is worth. -/
noncomputable def Try.pinned : Pinned := { name := "qxb6630621a", sum := "97f1c95ae9b2ffd07ab3481900100c88c1a7f78cfe28f92d31c20f2696504bee", checked := Try.checked }
namespace Rows
def none {H : Type} : Left H := { results := [], args := [] }

/-- 'zzlaws_root_b1.FnNamesJoinAtAnyCut': WHATEVER THE INPUT: true; the input reads as it did. -/
def fnNamesJoinAtAnyCutSpec : ChangeSpec := { name := "fnNamesJoinAtAnyCut", fn := fun _ => fun
  | [d1, d2] => { results := [.lit (.bool true)], args := [d1, d2] }
  | _ => none }
def fnNamesJoinAtAnyCutRow : OpenClaim := { program := "qxb6630621a", sum := "97f1c95ae9b2ffd07ab3481900100c88c1a7f78cfe28f92d31c20f2696504bee", func := "example.com/lean-switchboard/lean-switchboard/zzlaws_root_b1.FnNamesJoinAtAnyCut", spec := "fnNamesJoinAtAnyCut", inPlace := ["(*sync.RWMutex).RLock", "internal/race.Read", "internal/race.Disable", "sync/atomic.AddInt32", "sync.runtime_SemacquireRWMutexR", "internal/race.Enable", "internal/race.Acquire", "(*sync.RWMutex).RUnlock", "internal/race.ReleaseMerge", "(*sync.RWMutex).rUnlockSlow", "sync.fatal", "sync.runtime_Semrelease", "internal/abi.NoEscape", "internal/bytealg.MakeNoZero"], apart := false }
def FnNamesJoinAtAnyCutSaid : Prop := fnNamesJoinAtAnyCutRow.holds Try.pinned (OpenSpec.ofChange fnNamesJoinAtAnyCutSpec)

/-- ITS FALSE NEIGHBOUR: 'it returns false'. Refute it at one input. -/
def fnNamesJoinAtAnyCutWrong : ChangeSpec := { name := "fnNamesJoinAtAnyCut", fn := fun _ => fun
  | [d1, d2] => { results := [.lit (.bool false)], args := [d1, d2] }
  | _ => none }
def FnNamesJoinAtAnyCutWrongFalsely : Prop := fnNamesJoinAtAnyCutRow.holds Try.pinned (OpenSpec.ofChange fnNamesJoinAtAnyCutWrong)

/-- 'zzlaws_root_b1.FnNamesSplitsBackToNames': WHATEVER THE INPUT: true; the input reads as it did. -/
def fnNamesSplitsBackToNamesSpec : ChangeSpec := { name := "fnNamesSplitsBackToNames", fn := fun _ => fun
  | [d] => { results := [.lit (.bool true)], args := [d] }
  | _ => none }
def fnNamesSplitsBackToNamesRow : OpenClaim := { program := "qxb6630621a", sum := "97f1c95ae9b2ffd07ab3481900100c88c1a7f78cfe28f92d31c20f2696504bee", func := "example.com/lean-switchboard/lean-switchboard/zzlaws_root_b1.FnNamesSplitsBackToNames", spec := "fnNamesSplitsBackToNames", inPlace := ["(*sync.RWMutex).RLock", "internal/race.Read", "internal/race.Disable", "sync/atomic.AddInt32", "sync.runtime_SemacquireRWMutexR", "internal/race.Enable", "internal/race.Acquire", "(*sync.RWMutex).RUnlock", "internal/race.ReleaseMerge", "(*sync.RWMutex).rUnlockSlow", "sync.fatal", "sync.runtime_Semrelease", "internal/abi.NoEscape", "internal/bytealg.MakeNoZero"], apart := false }
def FnNamesSplitsBackToNamesSaid : Prop := fnNamesSplitsBackToNamesRow.holds Try.pinned (OpenSpec.ofChange fnNamesSplitsBackToNamesSpec)

/-- ITS FALSE NEIGHBOUR: 'it returns false'. Refute it at one input. -/
def fnNamesSplitsBackToNamesWrong : ChangeSpec := { name := "fnNamesSplitsBackToNames", fn := fun _ => fun
  | [d] => { results := [.lit (.bool false)], args := [d] }
  | _ => none }
def FnNamesSplitsBackToNamesWrongFalsely : Prop := fnNamesSplitsBackToNamesRow.holds Try.pinned (OpenSpec.ofChange fnNamesSplitsBackToNamesWrong)

end Rows
end Go.Proofs.Qxb6630621a
