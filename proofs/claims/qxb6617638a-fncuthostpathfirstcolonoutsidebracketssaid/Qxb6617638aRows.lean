/-
  No cell of these rows narrows 'for every input' (looked for: loops, veiled, ifaces, maps, wideKeys, modest, calm, conditions, laid).
  DERIVED. THE GIVEN ROWS OF THIS SEAT. 1 by the template 'for every input the law returns true; each argument reads behind the call as it read before'; 0 by the template 'total and deterministic' (their statements: Qxb6617638aTotals.lean).
  GIVEN WITH THE SEED: the statements are not yours to turn. If you find one false, say at which input.
  Laid BY PROGRAM, IN A SANDBOX (cutbox-rows.mjs): the forced cells as the released guide's own fill.sh prints them over the translation 4a89536f1a9cbdb8… (all of the seat's roots in one cut). By AI agents, Wed Nov 11 2026. No macro, syntax, notation, axiom, sorry.
-/
import Derived.Test.Qxb6617638aChecked
import GoSem.Claim
import GoSem.ClaimJoined
import GoSem.ClaimMapViews
import Derived.JoinedTies
import Derived.KernelRfl
namespace Go.Proofs.Qxb6617638a
/- THE CELL 'sum', in the pinned program and in every row, IS THE sha256 OF THE DUMP (.gsa) THAT Qxb6617638aProg.lean LOADS. Nothing in Lean hashes anything: it is a label: what it is worth is what the hold of that sum in a sandbox is worth. -/
noncomputable def Try.pinned : Pinned := { name := "qxb6617638a", sum := "4a89536f1a9cbdb857f191a71ea44a0fbbca33251a973759a4b533b784fb92c2", checked := Try.checked }
namespace Rows
def none {H : Type} : Left H := { results := [], args := [] }

/-- 'zzlaws_root_b1.FnCutHostPathFirstColonOutsideBrackets': WHATEVER THE INPUT: true; the input reads as it did. -/
def fnCutHostPathFirstColonOutsideBracketsSpec : ChangeSpec := { name := "fnCutHostPathFirstColonOutsideBrackets", fn := fun _ => fun
  | [d] => { results := [.lit (.bool true)], args := [d] }
  | _ => none }
def fnCutHostPathFirstColonOutsideBracketsRow : OpenClaim := { program := "qxb6617638a", sum := "4a89536f1a9cbdb857f191a71ea44a0fbbca33251a973759a4b533b784fb92c2", func := "example.com/tidewire/tidewire/zzlaws_root_b1.FnCutHostPathFirstColonOutsideBrackets", spec := "fnCutHostPathFirstColonOutsideBrackets", apart := false }
def FnCutHostPathFirstColonOutsideBracketsSaid : Prop := fnCutHostPathFirstColonOutsideBracketsRow.holds Try.pinned (OpenSpec.ofChange fnCutHostPathFirstColonOutsideBracketsSpec)

/-- ITS FALSE NEIGHBOUR: 'it returns false'. Refute it at one input. -/
def fnCutHostPathFirstColonOutsideBracketsWrong : ChangeSpec := { name := "fnCutHostPathFirstColonOutsideBrackets", fn := fun _ => fun
  | [d] => { results := [.lit (.bool false)], args := [d] }
  | _ => none }
def FnCutHostPathFirstColonOutsideBracketsWrongFalsely : Prop := fnCutHostPathFirstColonOutsideBracketsRow.holds Try.pinned (OpenSpec.ofChange fnCutHostPathFirstColonOutsideBracketsWrong)

end Rows
end Go.Proofs.Qxb6617638a
