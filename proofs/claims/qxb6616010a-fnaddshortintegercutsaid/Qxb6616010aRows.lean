/-
  No cell of these rows narrows 'for every input' (looked for: loops, veiled, ifaces, maps, wideKeys, modest, calm, conditions, laid).
  DERIVED. THE GIVEN ROWS OF THIS SEAT. 4 by the template 'for every input the law returns true; each argument reads behind the call as it read before'; 0 by the template 'total and deterministic' (their statements: Qxb6616010aTotals.lean).
  GIVEN WITH THE SEED: the statements are not yours to turn. If you find one false, say at which input.
  Laid BY PROGRAM, IN A SANDBOX (cutbox-rows.mjs): the forced cells as the released guide's own fill.sh prints them over the translation c0723fa3027cce79… (all of the seat's roots in one cut). By AI agents, Wed Nov 11 2026. No macro, syntax, notation, axiom, sorry.
-/
import Derived.Test.Qxb6616010aChecked
import GoSem.Claim
import GoSem.ClaimJoined
import GoSem.ClaimMapViews
import Derived.JoinedTies
import Derived.KernelRfl
namespace Go.Proofs.Qxb6616010a
/- THE CELL 'sum', in the pinned program and in every row, IS THE sha256 OF THE DUMP (.gsa) THAT Qxb6616010aProg.lean LOADS. Nothing in Lean hashes anything: it is a label: what it is worth is what the hold of that sum in a sandbox is worth. -/
noncomputable def Try.pinned : Pinned := { name := "qxb6616010a", sum := "c0723fa3027cce79eee1394fbcda086fa0e4fad4242c141843c2e05cda6c3f37", checked := Try.checked }
namespace Rows
def none {H : Type} : Left H := { results := [], args := [] }

/-- 'zzlaws_root_b1.FnCopyWordSaveOverwriteRestore': WHATEVER THE INPUT: true; the input reads as it did. -/
def fnCopyWordSaveOverwriteRestoreSpec : ChangeSpec := { name := "fnCopyWordSaveOverwriteRestore", fn := fun _ => fun
  | [d1, d2, d3, d4] => { results := [.lit (.bool true)], args := [d1, d2, d3, d4] }
  | _ => none }
def fnCopyWordSaveOverwriteRestoreRow : OpenClaim := { program := "qxb6616010a", sum := "c0723fa3027cce79eee1394fbcda086fa0e4fad4242c141843c2e05cda6c3f37", func := "example.com/evenkeel/evenkeel/zzlaws_root_b1.FnCopyWordSaveOverwriteRestore", spec := "fnCopyWordSaveOverwriteRestore", named := ["encoding/binary.LittleEndian"], apart := false }
def FnCopyWordSaveOverwriteRestoreSaid : Prop := fnCopyWordSaveOverwriteRestoreRow.holds Try.pinned (OpenSpec.ofChange fnCopyWordSaveOverwriteRestoreSpec)

/-- ITS FALSE NEIGHBOUR: 'it returns false'. Refute it at one input. -/
def fnCopyWordSaveOverwriteRestoreWrong : ChangeSpec := { name := "fnCopyWordSaveOverwriteRestore", fn := fun _ => fun
  | [d1, d2, d3, d4] => { results := [.lit (.bool false)], args := [d1, d2, d3, d4] }
  | _ => none }
def FnCopyWordSaveOverwriteRestoreWrongFalsely : Prop := fnCopyWordSaveOverwriteRestoreRow.holds Try.pinned (OpenSpec.ofChange fnCopyWordSaveOverwriteRestoreWrong)

/-- 'zzlaws_root_b1.FnCopyWordWithinOneBuffer': WHATEVER THE INPUT: true; the input reads as it did. -/
def fnCopyWordWithinOneBufferSpec : ChangeSpec := { name := "fnCopyWordWithinOneBuffer", fn := fun _ => fun
  | [d1, d2, d3] => { results := [.lit (.bool true)], args := [d1, d2, d3] }
  | _ => none }
def fnCopyWordWithinOneBufferRow : OpenClaim := { program := "qxb6616010a", sum := "c0723fa3027cce79eee1394fbcda086fa0e4fad4242c141843c2e05cda6c3f37", func := "example.com/evenkeel/evenkeel/zzlaws_root_b1.FnCopyWordWithinOneBuffer", spec := "fnCopyWordWithinOneBuffer", named := ["encoding/binary.LittleEndian"], apart := false }
def FnCopyWordWithinOneBufferSaid : Prop := fnCopyWordWithinOneBufferRow.holds Try.pinned (OpenSpec.ofChange fnCopyWordWithinOneBufferSpec)

/-- ITS FALSE NEIGHBOUR: 'it returns false'. Refute it at one input. -/
def fnCopyWordWithinOneBufferWrong : ChangeSpec := { name := "fnCopyWordWithinOneBuffer", fn := fun _ => fun
  | [d1, d2, d3] => { results := [.lit (.bool false)], args := [d1, d2, d3] }
  | _ => none }
def FnCopyWordWithinOneBufferWrongFalsely : Prop := fnCopyWordWithinOneBufferRow.holds Try.pinned (OpenSpec.ofChange fnCopyWordWithinOneBufferWrong)

/-- 'zzlaws_root_b1.FnAddShortIntegerRuns': WHATEVER THE INPUT: true; the input reads as it did. -/
def fnAddShortIntegerRunsSpec : ChangeSpec := { name := "fnAddShortIntegerRuns", fn := fun _ => fun
  | [d] => { results := [.lit (.bool true)], args := [d] }
  | _ => none }
def fnAddShortIntegerRunsRow : OpenClaim := { program := "qxb6616010a", sum := "c0723fa3027cce79eee1394fbcda086fa0e4fad4242c141843c2e05cda6c3f37", func := "example.com/evenkeel/evenkeel/zzlaws_root_b1.FnAddShortIntegerRuns", spec := "fnAddShortIntegerRuns", apart := false }
def FnAddShortIntegerRunsSaid : Prop := fnAddShortIntegerRunsRow.holds Try.pinned (OpenSpec.ofChange fnAddShortIntegerRunsSpec)

/-- ITS FALSE NEIGHBOUR: 'it returns false'. Refute it at one input. -/
def fnAddShortIntegerRunsWrong : ChangeSpec := { name := "fnAddShortIntegerRuns", fn := fun _ => fun
  | [d] => { results := [.lit (.bool false)], args := [d] }
  | _ => none }
def FnAddShortIntegerRunsWrongFalsely : Prop := fnAddShortIntegerRunsRow.holds Try.pinned (OpenSpec.ofChange fnAddShortIntegerRunsWrong)

/-- 'zzlaws_root_b1.FnAddShortIntegerCut': WHATEVER THE INPUT: true; the input reads as it did. -/
def fnAddShortIntegerCutSpec : ChangeSpec := { name := "fnAddShortIntegerCut", fn := fun _ => fun
  | [d1, d2] => { results := [.lit (.bool true)], args := [d1, d2] }
  | _ => none }
def fnAddShortIntegerCutRow : OpenClaim := { program := "qxb6616010a", sum := "c0723fa3027cce79eee1394fbcda086fa0e4fad4242c141843c2e05cda6c3f37", func := "example.com/evenkeel/evenkeel/zzlaws_root_b1.FnAddShortIntegerCut", spec := "fnAddShortIntegerCut", apart := false }
def FnAddShortIntegerCutSaid : Prop := fnAddShortIntegerCutRow.holds Try.pinned (OpenSpec.ofChange fnAddShortIntegerCutSpec)

/-- ITS FALSE NEIGHBOUR: 'it returns false'. Refute it at one input. -/
def fnAddShortIntegerCutWrong : ChangeSpec := { name := "fnAddShortIntegerCut", fn := fun _ => fun
  | [d1, d2] => { results := [.lit (.bool false)], args := [d1, d2] }
  | _ => none }
def FnAddShortIntegerCutWrongFalsely : Prop := fnAddShortIntegerCutRow.holds Try.pinned (OpenSpec.ofChange fnAddShortIntegerCutWrong)

end Rows
end Go.Proofs.Qxb6616010a
