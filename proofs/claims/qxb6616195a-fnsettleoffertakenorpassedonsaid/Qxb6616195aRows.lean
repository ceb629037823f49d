/-
  No cell of these rows narrows 'for every input' (looked for: loops, veiled, ifaces, maps, wideKeys, modest, calm, conditions, laid).
  DERIVED. THE GIVEN ROWS OF THIS SEAT. 2 by the template 'for every input the law returns true; each argument reads behind the call as it read before'; 0 by the template 'total and deterministic' (their statements: Qxb6616195aTotals.lean).
  GIVEN WITH THE SEED: the statements are not yours to turn. If you find one false, say at which input.
  Laid BY PROGRAM, IN A SANDBOX (cutbox-rows.mjs): the forced cells as the released guide's own fill.sh prints them over the translation 3148c9ae929cb4c2… (all of the seat's roots in one cut). By AI agents, Wed Nov 11 2026. No macro, syntax, notation, axiom, sorry.
-/
import Derived.Test.Qxb6616195aChecked
import GoSem.Claim
import GoSem.ClaimJoined
import GoSem.ClaimMapViews
import Derived.JoinedTies
import Derived.KernelRfl
namespace Go.Proofs.Qxb6616195a
/- THE CELL 'sum', in the pinned program and in every row, IS THE sha256 OF THE DUMP (.gsa) THAT Qxb6616195aProg.lean LOADS. Nothing in Lean hashes anything: it is a label: what it is worth is what the hold of that sum in a sandbox is worth. -/
noncomputable def Try.pinned : Pinned := { name := "qxb6616195a", sum := "3148c9ae929cb4c2eebb112902076973037663c85c5db82541dcbed610bcf296", checked := Try.checked }
namespace Rows
def none {H : Type} : Left H := { results := [], args := [] }

/-- 'zzlaws_store_b1.FnSettleKeepsPlaceFirstComeFirst': WHATEVER THE INPUT: true; the input reads as it did. -/
def fnSettleKeepsPlaceFirstComeFirstSpec : ChangeSpec := { name := "fnSettleKeepsPlaceFirstComeFirst", fn := fun _ => fun
  | [d1, d2, d3] => { results := [.lit (.bool true)], args := [d1, d2, d3] }
  | _ => none }
def fnSettleKeepsPlaceFirstComeFirstRow : OpenClaim := { program := "qxb6616195a", sum := "3148c9ae929cb4c2eebb112902076973037663c85c5db82541dcbed610bcf296", func := "example.com/portcullis/portcullis/zzlaws_store_b1.FnSettleKeepsPlaceFirstComeFirst", spec := "fnSettleKeepsPlaceFirstComeFirst", inPlace := ["(*internal/sync.Mutex).Lock", "internal/race.Disable", "sync/atomic.CompareAndSwapInt32", "internal/race.Enable", "internal/race.Acquire", "(*internal/sync.Mutex).lockSlow", "internal/sync.runtime_canSpin", "internal/sync.runtime_doSpin", "internal/sync.throw", "internal/sync.runtime_nanotime", "internal/sync.runtime_SemacquireMutex", "sync/atomic.AddInt32", "(*internal/sync.Mutex).Unlock", "internal/race.ReleaseMerge", "(*internal/sync.Mutex).unlockSlow", "internal/sync.fatal", "internal/sync.runtime_Semrelease"], unfollowed := true, recurses := true, apart := false }
def FnSettleKeepsPlaceFirstComeFirstSaid : Prop := fnSettleKeepsPlaceFirstComeFirstRow.holds Try.pinned (OpenSpec.ofChange fnSettleKeepsPlaceFirstComeFirstSpec)

/-- ITS FALSE NEIGHBOUR: 'it returns false'. Refute it at one input. -/
def fnSettleKeepsPlaceFirstComeFirstWrong : ChangeSpec := { name := "fnSettleKeepsPlaceFirstComeFirst", fn := fun _ => fun
  | [d1, d2, d3] => { results := [.lit (.bool false)], args := [d1, d2, d3] }
  | _ => none }
def FnSettleKeepsPlaceFirstComeFirstWrongFalsely : Prop := fnSettleKeepsPlaceFirstComeFirstRow.holds Try.pinned (OpenSpec.ofChange fnSettleKeepsPlaceFirstComeFirstWrong)

/-- 'zzlaws_store_b1.FnSettleOfferTakenOrPassedOn': WHATEVER THE INPUT: true; the input reads as it did. -/
def fnSettleOfferTakenOrPassedOnSpec : ChangeSpec := { name := "fnSettleOfferTakenOrPassedOn", fn := fun _ => fun
  | [d1, d2, d3] => { results := [.lit (.bool true)], args := [d1, d2, d3] }
  | _ => none }
def fnSettleOfferTakenOrPassedOnRow : OpenClaim := { program := "qxb6616195a", sum := "3148c9ae929cb4c2eebb112902076973037663c85c5db82541dcbed610bcf296", func := "example.com/portcullis/portcullis/zzlaws_store_b1.FnSettleOfferTakenOrPassedOn", spec := "fnSettleOfferTakenOrPassedOn", inPlace := ["(*internal/sync.Mutex).Lock", "internal/race.Disable", "sync/atomic.CompareAndSwapInt32", "internal/race.Enable", "internal/race.Acquire", "(*internal/sync.Mutex).lockSlow", "internal/sync.runtime_canSpin", "internal/sync.runtime_doSpin", "internal/sync.throw", "internal/sync.runtime_nanotime", "internal/sync.runtime_SemacquireMutex", "sync/atomic.AddInt32", "(*internal/sync.Mutex).Unlock", "internal/race.ReleaseMerge", "(*internal/sync.Mutex).unlockSlow", "internal/sync.fatal", "internal/sync.runtime_Semrelease"], unfollowed := true, recurses := true, apart := false }
def FnSettleOfferTakenOrPassedOnSaid : Prop := fnSettleOfferTakenOrPassedOnRow.holds Try.pinned (OpenSpec.ofChange fnSettleOfferTakenOrPassedOnSpec)

/-- ITS FALSE NEIGHBOUR: 'it returns false'. Refute it at one input. -/
def fnSettleOfferTakenOrPassedOnWrong : ChangeSpec := { name := "fnSettleOfferTakenOrPassedOn", fn := fun _ => fun
  | [d1, d2, d3] => { results := [.lit (.bool false)], args := [d1, d2, d3] }
  | _ => none }
def FnSettleOfferTakenOrPassedOnWrongFalsely : Prop := fnSettleOfferTakenOrPassedOnRow.holds Try.pinned (OpenSpec.ofChange fnSettleOfferTakenOrPassedOnWrong)

end Rows
end Go.Proofs.Qxb6616195a
