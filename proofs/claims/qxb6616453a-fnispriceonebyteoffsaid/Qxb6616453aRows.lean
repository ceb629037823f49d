/-
  No cell of these rows narrows 'for every input' (looked for: loops, veiled, ifaces, maps, wideKeys, modest, calm, conditions, laid).
  DERIVED. THE GIVEN ROWS OF THIS SEAT. 2 by the template 'for every input the law returns true; each argument reads behind the call as it read before'; 0 by the template 'total and deterministic' (their statements: Qxb6616453aTotals.lean).
  GIVEN WITH THE SEED: the statements are not yours to turn. If you find one false, say at which input.
  Laid BY PROGRAM, IN A SANDBOX (cutbox-rows.mjs): the forced cells as the released guide's own fill.sh prints them over the translation d029091928de9d3a… (all of the seat's roots in one cut). By AI agents, Wed Nov 11 2026. No macro, syntax, notation, axiom, sorry.
-/
import Derived.Test.Qxb6616453aChecked
import GoSem.Claim
import GoSem.ClaimJoined
import GoSem.ClaimMapViews
import Derived.JoinedTies
import Derived.KernelRfl
namespace Go.Proofs.Qxb6616453a
/- THE CELL 'sum', in the pinned program and in every row, IS THE sha256 OF THE DUMP (.gsa) THAT Qxb6616453aProg.lean LOADS. Nothing in Lean hashes anything: it is a label: what it is worth is what the hold of that sum in a sandbox is worth. -/
noncomputable def Try.pinned : Pinned := { name := "qxb6616453a", sum := "d029091928de9d3a6cd4dbba55d2a5104a6b3479e73552db06a6b9851724867f", checked := Try.checked }
namespace Rows
def none {H : Type} : Left H := { results := [], args := [] }

/-- 'zzlaws_ledger_b1.FnIsPricePaddedTerm': WHATEVER THE INPUT: true; the input reads as it did. -/
def fnIsPricePaddedTermSpec : ChangeSpec := { name := "fnIsPricePaddedTerm", fn := fun _ => fun
  | [d1, d2, d3] => { results := [.lit (.bool true)], args := [d1, d2, d3] }
  | _ => none }
def fnIsPricePaddedTermRow : OpenClaim := { program := "qxb6616453a", sum := "d029091928de9d3a6cd4dbba55d2a5104a6b3479e73552db06a6b9851724867f", func := "example.com/vestledger/vestledger/zzlaws_ledger_b1.FnIsPricePaddedTerm", spec := "fnIsPricePaddedTerm", apart := false }
def FnIsPricePaddedTermSaid : Prop := fnIsPricePaddedTermRow.holds Try.pinned (OpenSpec.ofChange fnIsPricePaddedTermSpec)

/-- ITS FALSE NEIGHBOUR: 'it returns false'. Refute it at one input. -/
def fnIsPricePaddedTermWrong : ChangeSpec := { name := "fnIsPricePaddedTerm", fn := fun _ => fun
  | [d1, d2, d3] => { results := [.lit (.bool false)], args := [d1, d2, d3] }
  | _ => none }
def FnIsPricePaddedTermWrongFalsely : Prop := fnIsPricePaddedTermRow.holds Try.pinned (OpenSpec.ofChange fnIsPricePaddedTermWrong)

/-- 'zzlaws_ledger_b1.FnIsPriceOneByteOff': WHATEVER THE INPUT: true; the input reads as it did. -/
def fnIsPriceOneByteOffSpec : ChangeSpec := { name := "fnIsPriceOneByteOff", fn := fun _ => fun
  | [d1, d2, d3] => { results := [.lit (.bool true)], args := [d1, d2, d3] }
  | _ => none }
def fnIsPriceOneByteOffRow : OpenClaim := { program := "qxb6616453a", sum := "d029091928de9d3a6cd4dbba55d2a5104a6b3479e73552db06a6b9851724867f", func := "example.com/vestledger/vestledger/zzlaws_ledger_b1.FnIsPriceOneByteOff", spec := "fnIsPriceOneByteOff", apart := false }
def FnIsPriceOneByteOffSaid : Prop := fnIsPriceOneByteOffRow.holds Try.pinned (OpenSpec.ofChange fnIsPriceOneByteOffSpec)

/-- ITS FALSE NEIGHBOUR: 'it returns false'. Refute it at one input. -/
def fnIsPriceOneByteOffWrong : ChangeSpec := { name := "fnIsPriceOneByteOff", fn := fun _ => fun
  | [d1, d2, d3] => { results := [.lit (.bool false)], args := [d1, d2, d3] }
  | _ => none }
def FnIsPriceOneByteOffWrongFalsely : Prop := fnIsPriceOneByteOffRow.holds Try.pinned (OpenSpec.ofChange fnIsPriceOneByteOffWrong)

end Rows
end Go.Proofs.Qxb6616453a
