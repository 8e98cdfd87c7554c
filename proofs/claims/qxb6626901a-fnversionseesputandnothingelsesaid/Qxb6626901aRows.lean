/-
  No cell of these rows narrows 'for every input' (looked for: loops, veiled, ifaces, maps, wideKeys, modest, calm, conditions, laid).
  DERIVED. THE GIVEN ROWS OF THIS SEAT. 2 by the template 'for every input the law returns true; each argument reads behind the call as it read before'; 0 by the template 'total and deterministic' (their statements: Qxb6626901aTotals.lean).
  GIVEN WITH THE SEED: the statements are not yours to turn. If you find one false, say at which input.
  Laid BY PROGRAM, IN A SANDBOX (cutbox-rows.mjs): the forced cells as the released guide's own fill.sh prints them over the translation 6840df84d83b1616… (all of the seat's roots in one cut). By AI agents, Wed Nov 11 2026. No macro, syntax, notation, axiom, sorry.
-/
import Derived.Test.Qxb6626901aChecked
import GoSem.Claim
import GoSem.ClaimJoined
import GoSem.ClaimMapViews
import Derived.JoinedTies
import Derived.KernelRfl
namespace Go.Proofs.Qxb6626901a
/- THE CELL 'sum', in the pinned program and in every row, IS THE sha256 OF THE DUMP (.gsa) THAT Qxb6626901aProg.lean LOADS. Nothing in Lean hashes anything: it is a label: what it is worth is what the hold of that sum in a sandbox is worth. -/
noncomputable def Try.pinned : Pinned := { name := "qxb6626901a", sum := "6840df84d83b161696f24a4138b4257fd63cca9901f57a13aea17ec3d214607e", checked := Try.checked }
namespace Rows
def none {H : Type} : Left H := { results := [], args := [] }

/-- 'zzlaws_store_b1.FnVersionAnswersLastPut': WHATEVER THE INPUT: true; the input reads as it did. -/
def fnVersionAnswersLastPutSpec : ChangeSpec := { name := "fnVersionAnswersLastPut", fn := fun _ => fun
  | [d1, d2, d3] => { results := [.lit (.bool true)], args := [d1, d2, d3] }
  | _ => none }
def fnVersionAnswersLastPutRow : OpenClaim := { program := "qxb6626901a", sum := "6840df84d83b161696f24a4138b4257fd63cca9901f57a13aea17ec3d214607e", func := "example.com/susurrus/susurrus/zzlaws_store_b1.FnVersionAnswersLastPut", spec := "fnVersionAnswersLastPut", inPlace := ["(*sync.RWMutex).RLock", "internal/race.Read", "internal/race.Disable", "sync/atomic.AddInt32", "sync.runtime_SemacquireRWMutexR", "internal/race.Enable", "internal/race.Acquire", "(*sync.RWMutex).RUnlock", "internal/race.ReleaseMerge", "(*sync.RWMutex).rUnlockSlow", "sync.fatal", "sync.runtime_Semrelease"], apart := false }
def FnVersionAnswersLastPutSaid : Prop := fnVersionAnswersLastPutRow.holds Try.pinned (OpenSpec.ofChange fnVersionAnswersLastPutSpec)

/-- ITS FALSE NEIGHBOUR: 'it returns false'. Refute it at one input. -/
def fnVersionAnswersLastPutWrong : ChangeSpec := { name := "fnVersionAnswersLastPut", fn := fun _ => fun
  | [d1, d2, d3] => { results := [.lit (.bool false)], args := [d1, d2, d3] }
  | _ => none }
def FnVersionAnswersLastPutWrongFalsely : Prop := fnVersionAnswersLastPutRow.holds Try.pinned (OpenSpec.ofChange fnVersionAnswersLastPutWrong)

/-- 'zzlaws_store_b1.FnVersionSeesPutAndNothingElse': WHATEVER THE INPUT: true; the input reads as it did. -/
def fnVersionSeesPutAndNothingElseSpec : ChangeSpec := { name := "fnVersionSeesPutAndNothingElse", fn := fun _ => fun
  | [d1, d2, d3, d4, d5, d6] => { results := [.lit (.bool true)], args := [d1, d2, d3, d4, d5, d6] }
  | _ => none }
def fnVersionSeesPutAndNothingElseRow : OpenClaim := { program := "qxb6626901a", sum := "6840df84d83b161696f24a4138b4257fd63cca9901f57a13aea17ec3d214607e", func := "example.com/susurrus/susurrus/zzlaws_store_b1.FnVersionSeesPutAndNothingElse", spec := "fnVersionSeesPutAndNothingElse", inPlace := ["(*sync.RWMutex).RLock", "internal/race.Read", "internal/race.Disable", "sync/atomic.AddInt32", "sync.runtime_SemacquireRWMutexR", "internal/race.Enable", "internal/race.Acquire", "(*sync.RWMutex).RUnlock", "internal/race.ReleaseMerge", "(*sync.RWMutex).rUnlockSlow", "sync.fatal", "sync.runtime_Semrelease"], apart := false }
def FnVersionSeesPutAndNothingElseSaid : Prop := fnVersionSeesPutAndNothingElseRow.holds Try.pinned (OpenSpec.ofChange fnVersionSeesPutAndNothingElseSpec)

/-- ITS FALSE NEIGHBOUR: 'it returns false'. Refute it at one input. -/
def fnVersionSeesPutAndNothingElseWrong : ChangeSpec := { name := "fnVersionSeesPutAndNothingElse", fn := fun _ => fun
  | [d1, d2, d3, d4, d5, d6] => { results := [.lit (.bool false)], args := [d1, d2, d3, d4, d5, d6] }
  | _ => none }
def FnVersionSeesPutAndNothingElseWrongFalsely : Prop := fnVersionSeesPutAndNothingElseRow.holds Try.pinned (OpenSpec.ofChange fnVersionSeesPutAndNothingElseWrong)

end Rows
end Go.Proofs.Qxb6626901a
