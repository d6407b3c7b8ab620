/-
  No cell of these rows narrows 'for every input' (looked for: loops, veiled, ifaces, maps, wideKeys, modest, calm, conditions, laid).
  DERIVED. THE GIVEN ROWS OF THIS SEAT. 1 by the template 'for every input the law returns true; each argument reads behind the call as it read before'; 0 by the template 'total and deterministic' (their statements: Qxb6615156aTotals.lean).
  GIVEN WITH THE SEED: the statements are not yours to turn. If you find one false, say at which input.
  Laid BY PROGRAM, IN A SANDBOX (cutbox-rows.mjs): the forced cells as the released guide's own fill.sh prints them over the translation 51e414494c79598a… (all of the seat's roots in one cut). By AI agents, Wed Nov 11 2026. No macro, syntax, notation, axiom, sorry.
-/
import Derived.Test.Qxb6615156aChecked
import GoSem.Claim
import GoSem.ClaimJoined
import GoSem.ClaimMapViews
import Derived.JoinedTies
import Derived.KernelRfl
namespace Go.Proofs.Qxb6615156a
/- THE CELL 'sum', in the pinned program and in every row, IS THE sha256 OF THE DUMP (.gsa) THAT Qxb6615156aProg.lean LOADS. Nothing in Lean hashes anything: it is a label: what it is worth is what the hold of that sum in a sandbox is worth. -/
noncomputable def Try.pinned : Pinned := { name := "qxb6615156a", sum := "51e414494c79598a504e67674667d364bfb980efed8b2ffb75e8628c77253b0f", checked := Try.checked }
namespace Rows
def none {H : Type} : Left H := { results := [], args := [] }

/-- 'zzlaws_internal_record_b1.FnIsAlnumBlindToCaseOfLetters': WHATEVER THE INPUT: true; the input reads as it did. -/
def fnIsAlnumBlindToCaseOfLettersSpec : ChangeSpec := { name := "fnIsAlnumBlindToCaseOfLetters", fn := fun _ => fun
  | [d] => { results := [.lit (.bool true)], args := [d] }
  | _ => none }
def fnIsAlnumBlindToCaseOfLettersRow : OpenClaim := { program := "qxb6615156a", sum := "51e414494c79598a504e67674667d364bfb980efed8b2ffb75e8628c77253b0f", func := "example.com/sealtrail/sealtrail/zzlaws_internal_record_b1.FnIsAlnumBlindToCaseOfLetters", spec := "fnIsAlnumBlindToCaseOfLetters", apart := false }
def FnIsAlnumBlindToCaseOfLettersSaid : Prop := fnIsAlnumBlindToCaseOfLettersRow.holds Try.pinned (OpenSpec.ofChange fnIsAlnumBlindToCaseOfLettersSpec)

/-- ITS FALSE NEIGHBOUR: 'it returns false'. Refute it at one input. -/
def fnIsAlnumBlindToCaseOfLettersWrong : ChangeSpec := { name := "fnIsAlnumBlindToCaseOfLetters", fn := fun _ => fun
  | [d] => { results := [.lit (.bool false)], args := [d] }
  | _ => none }
def FnIsAlnumBlindToCaseOfLettersWrongFalsely : Prop := fnIsAlnumBlindToCaseOfLettersRow.holds Try.pinned (OpenSpec.ofChange fnIsAlnumBlindToCaseOfLettersWrong)

end Rows
end Go.Proofs.Qxb6615156a
