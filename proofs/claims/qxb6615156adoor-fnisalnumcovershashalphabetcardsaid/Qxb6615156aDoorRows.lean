/-
  NARROWER THAN 'FOR EVERY INPUT', by the rows' own cells (each row's printed sentence says how): FnIsHashSplitsAtAnyCut: laid · FnIsHashRefusesUpperCase: laid · FnIsAlnumCoversHashAlphabet: laid.
  DERIVED. THE GIVEN ROWS OF THIS SEAT. 3 by the template 'for every input the law returns true; each argument reads behind the call as it read before'; 0 by the template 'total and deterministic' (their statements: Qxb6615156aDoorTotals.lean).
  GIVEN WITH THE SEED: the statements are not yours to turn. If you find one false, say at which input.
  Laid BY PROGRAM, IN A SANDBOX (cutbox-rows.mjs): the forced cells as the released guide's own fill.sh prints them over the translation f5b83e4dc9f3d88f… (all of the seat's roots in one cut). By AI agents, Wed Nov 11 2026. No macro, syntax, notation, axiom, sorry.
-/
import Derived.Test.Qxb6615156aDoorChecked
import GoSem.Claim
import GoSem.ClaimJoined
import GoSem.ClaimMapViews
import Derived.JoinedTies
import Derived.KernelRfl
namespace Go.Proofs.Qxb6615156aDoor
/- THE CELL 'sum', in the pinned program and in every row, IS THE sha256 OF THE DUMP (.gsa) THAT Qxb6615156aDoorProg.lean LOADS. Nothing in Lean hashes anything: it is a label: what it is worth is what the hold of that sum in a sandbox is worth. -/
noncomputable def Tryd.pinned : Pinned := { name := "qxb6615156adoor", sum := "f5b83e4dc9f3d88fe721bf5ef5723142eb84d5383aea0561a1276f2e1749af84", checked := Tryd.checked }
namespace Rows
def none {H : Type} : Left H := { results := [], args := [] }

/- WHAT THE LISTED PACKAGE-LEVEL VARIABLES READ AS WHEN THE CALL BEGINS. Each datum BY PROGRAM (the guide's laid-datum.mjs) off the statement by which the dump's own 'gosem.cut.vars' lays the variable. In a bare row this is a premise. The card (Qxb6615156aDoorCards.lean) ties it to the program's text. -/
def laid_example_com_sealtrail_sealtrail_internal_record_lowerHex {H : Type} : DataW H := .agg [.lit (.bool false), .lit (.bool false), .lit (.bool false), .lit (.bool false), .lit (.bool false), .lit (.bool false), .lit (.bool false), .lit (.bool false), .lit (.bool false), .lit (.bool false), .lit (.bool false), .lit (.bool false), .lit (.bool false), .lit (.bool false), .lit (.bool false), .lit (.bool false), .lit (.bool false), .lit (.bool false), .lit (.bool false), .lit (.bool false), .lit (.bool false), .lit (.bool false), .lit (.bool false), .lit (.bool false), .lit (.bool false), .lit (.bool false), .lit (.bool false), .lit (.bool false), .lit (.bool false), .lit (.bool false), .lit (.bool false), .lit (.bool false), .lit (.bool false), .lit (.bool false), .lit (.bool false), .lit (.bool false), .lit (.bool false), .lit (.bool false), .lit (.bool false), .lit (.bool false), .lit (.bool false), .lit (.bool false), .lit (.bool false), .lit (.bool false), .lit (.bool false), .lit (.bool false), .lit (.bool false), .lit (.bool false), .lit (.bool true), .lit (.bool true), .lit (.bool true), .lit (.bool true), .lit (.bool true), .lit (.bool true), .lit (.bool true), .lit (.bool true), .lit (.bool true), .lit (.bool true), .lit (.bool false), .lit (.bool false), .lit (.bool false), .lit (.bool false), .lit (.bool false), .lit (.bool false), .lit (.bool false), .lit (.bool false), .lit (.bool false), .lit (.bool false), .lit (.bool false), .lit (.bool false), .lit (.bool false), .lit (.bool false), .lit (.bool false), .lit (.bool false), .lit (.bool false), .lit (.bool false), .lit (.bool false), .lit (.bool false), .lit (.bool false), .lit (.bool false), .lit (.bool false), .lit (.bool false), .lit (.bool false), .lit (.bool false), .lit (.bool false), .lit (.bool false), .lit (.bool false), .lit (.bool false), .lit (.bool false), .lit (.bool false), .lit (.bool false), .lit (.bool false), .lit (.bool false), .lit (.bool false), .lit (.bool false), .lit (.bool false), .lit (.bool false), .lit (.bool true), .lit (.bool true), .lit (.bool true), .lit (.bool true), .lit (.bool true), .lit (.bool true), .lit (.bool false), .lit (.bool false), .lit (.bool false), .lit (.bool false), .lit (.bool false), .lit (.bool false), .lit (.bool false), .lit (.bool false), .lit (.bool false), .lit (.bool false), .lit (.bool false), .lit (.bool false), .lit (.bool false), .lit (.bool false), .lit (.bool false), .lit (.bool false), .lit (.bool false), .lit (.bool false), .lit (.bool false), .lit (.bool false), .lit (.bool false), .lit (.bool false), .lit (.bool false), .lit (.bool false), .lit (.bool false), .lit (.bool false), .lit (.bool false), .lit (.bool false), .lit (.bool false), .lit (.bool false), .lit (.bool false), .lit (.bool false), .lit (.bool false), .lit (.bool false), .lit (.bool false), .lit (.bool false), .lit (.bool false), .lit (.bool false), .lit (.bool false), .lit (.bool false), .lit (.bool false), .lit (.bool false), .lit (.bool false), .lit (.bool false), .lit (.bool false), .lit (.bool false), .lit (.bool false), .lit (.bool false), .lit (.bool false), .lit (.bool false), .lit (.bool false), .lit (.bool false), .lit (.bool false), .lit (.bool false), .lit (.bool false), .lit (.bool false), .lit (.bool false), .lit (.bool false), .lit (.bool false), .lit (.bool false), .lit (.bool false), .lit (.bool false), .lit (.bool false), .lit (.bool false), .lit (.bool false), .lit (.bool false), .lit (.bool false), .lit (.bool false), .lit (.bool false), .lit (.bool false), .lit (.bool false), .lit (.bool false), .lit (.bool false), .lit (.bool false), .lit (.bool false), .lit (.bool false), .lit (.bool false), .lit (.bool false), .lit (.bool false), .lit (.bool false), .lit (.bool false), .lit (.bool false), .lit (.bool false), .lit (.bool false), .lit (.bool false), .lit (.bool false), .lit (.bool false), .lit (.bool false), .lit (.bool false), .lit (.bool false), .lit (.bool false), .lit (.bool false), .lit (.bool false), .lit (.bool false), .lit (.bool false), .lit (.bool false), .lit (.bool false), .lit (.bool false), .lit (.bool false), .lit (.bool false), .lit (.bool false), .lit (.bool false), .lit (.bool false), .lit (.bool false), .lit (.bool false), .lit (.bool false), .lit (.bool false), .lit (.bool false), .lit (.bool false), .lit (.bool false), .lit (.bool false), .lit (.bool false), .lit (.bool false), .lit (.bool false), .lit (.bool false), .lit (.bool false), .lit (.bool false), .lit (.bool false), .lit (.bool false), .lit (.bool false), .lit (.bool false), .lit (.bool false), .lit (.bool false), .lit (.bool false), .lit (.bool false), .lit (.bool false), .lit (.bool false), .lit (.bool false), .lit (.bool false), .lit (.bool false), .lit (.bool false), .lit (.bool false), .lit (.bool false), .lit (.bool false), .lit (.bool false), .lit (.bool false), .lit (.bool false), .lit (.bool false), .lit (.bool false), .lit (.bool false), .lit (.bool false), .lit (.bool false), .lit (.bool false), .lit (.bool false), .lit (.bool false), .lit (.bool false), .lit (.bool false), .lit (.bool false), .lit (.bool false), .lit (.bool false), .lit (.bool false), .lit (.bool false), .lit (.bool false)]

/-- 'zzlaws_internal_record_b1.FnIsHashSplitsAtAnyCut': WHATEVER THE INPUT: true; the input reads as it did. -/
def fnIsHashSplitsAtAnyCutSpec : ChangeSpec := { name := "fnIsHashSplitsAtAnyCut", vars := ["example.com/sealtrail/sealtrail/internal/record.lowerHex"], fn := fun _ => fun
  | [d1, d2, g1] => { results := [.lit (.bool true)], args := [d1, d2], vars := [g1] }
  | _ => none }
def fnIsHashSplitsAtAnyCutRow : OpenClaim := { program := "qxb6615156adoor", sum := "f5b83e4dc9f3d88fe721bf5ef5723142eb84d5383aea0561a1276f2e1749af84", func := "example.com/sealtrail/sealtrail/zzlaws_internal_record_b1.FnIsHashSplitsAtAnyCut", spec := "fnIsHashSplitsAtAnyCut", named := ["example.com/sealtrail/sealtrail/internal/record.lowerHex"], apart := false, laid := [("example.com/sealtrail/sealtrail/internal/record.lowerHex", laid_example_com_sealtrail_sealtrail_internal_record_lowerHex)] }
def FnIsHashSplitsAtAnyCutSaid : Prop := fnIsHashSplitsAtAnyCutRow.holds Tryd.pinned (OpenSpec.ofChange fnIsHashSplitsAtAnyCutSpec)

/-- ITS FALSE NEIGHBOUR: 'it returns false'. Refute it at one input. -/
def fnIsHashSplitsAtAnyCutWrong : ChangeSpec := { name := "fnIsHashSplitsAtAnyCut", vars := ["example.com/sealtrail/sealtrail/internal/record.lowerHex"], fn := fun _ => fun
  | [d1, d2, g1] => { results := [.lit (.bool false)], args := [d1, d2], vars := [g1] }
  | _ => none }
def FnIsHashSplitsAtAnyCutWrongFalsely : Prop := fnIsHashSplitsAtAnyCutRow.holds Tryd.pinned (OpenSpec.ofChange fnIsHashSplitsAtAnyCutWrong)

/-- 'zzlaws_internal_record_b1.FnIsHashRefusesUpperCase': WHATEVER THE INPUT: true; the input reads as it did. -/
def fnIsHashRefusesUpperCaseSpec : ChangeSpec := { name := "fnIsHashRefusesUpperCase", vars := ["example.com/sealtrail/sealtrail/internal/record.lowerHex"], fn := fun _ => fun
  | [d1, d2, g1] => { results := [.lit (.bool true)], args := [d1, d2], vars := [g1] }
  | _ => none }
def fnIsHashRefusesUpperCaseRow : OpenClaim := { program := "qxb6615156adoor", sum := "f5b83e4dc9f3d88fe721bf5ef5723142eb84d5383aea0561a1276f2e1749af84", func := "example.com/sealtrail/sealtrail/zzlaws_internal_record_b1.FnIsHashRefusesUpperCase", spec := "fnIsHashRefusesUpperCase", named := ["example.com/sealtrail/sealtrail/internal/record.lowerHex"], apart := false, laid := [("example.com/sealtrail/sealtrail/internal/record.lowerHex", laid_example_com_sealtrail_sealtrail_internal_record_lowerHex)] }
def FnIsHashRefusesUpperCaseSaid : Prop := fnIsHashRefusesUpperCaseRow.holds Tryd.pinned (OpenSpec.ofChange fnIsHashRefusesUpperCaseSpec)

/-- ITS FALSE NEIGHBOUR: 'it returns false'. Refute it at one input. -/
def fnIsHashRefusesUpperCaseWrong : ChangeSpec := { name := "fnIsHashRefusesUpperCase", vars := ["example.com/sealtrail/sealtrail/internal/record.lowerHex"], fn := fun _ => fun
  | [d1, d2, g1] => { results := [.lit (.bool false)], args := [d1, d2], vars := [g1] }
  | _ => none }
def FnIsHashRefusesUpperCaseWrongFalsely : Prop := fnIsHashRefusesUpperCaseRow.holds Tryd.pinned (OpenSpec.ofChange fnIsHashRefusesUpperCaseWrong)

/-- 'zzlaws_internal_record_b1.FnIsAlnumCoversHashAlphabet': WHATEVER THE INPUT: true; the input reads as it did. -/
def fnIsAlnumCoversHashAlphabetSpec : ChangeSpec := { name := "fnIsAlnumCoversHashAlphabet", vars := ["example.com/sealtrail/sealtrail/internal/record.lowerHex"], fn := fun _ => fun
  | [g1] => { results := [.lit (.bool true)], args := [], vars := [g1] }
  | _ => none }
def fnIsAlnumCoversHashAlphabetRow : OpenClaim := { program := "qxb6615156adoor", sum := "f5b83e4dc9f3d88fe721bf5ef5723142eb84d5383aea0561a1276f2e1749af84", func := "example.com/sealtrail/sealtrail/zzlaws_internal_record_b1.FnIsAlnumCoversHashAlphabet", spec := "fnIsAlnumCoversHashAlphabet", named := ["example.com/sealtrail/sealtrail/internal/record.lowerHex"], apart := false, laid := [("example.com/sealtrail/sealtrail/internal/record.lowerHex", laid_example_com_sealtrail_sealtrail_internal_record_lowerHex)] }
def FnIsAlnumCoversHashAlphabetSaid : Prop := fnIsAlnumCoversHashAlphabetRow.holds Tryd.pinned (OpenSpec.ofChange fnIsAlnumCoversHashAlphabetSpec)

/-- ITS FALSE NEIGHBOUR: 'it returns false'. Refute it at one input. -/
def fnIsAlnumCoversHashAlphabetWrong : ChangeSpec := { name := "fnIsAlnumCoversHashAlphabet", vars := ["example.com/sealtrail/sealtrail/internal/record.lowerHex"], fn := fun _ => fun
  | [g1] => { results := [.lit (.bool false)], args := [], vars := [g1] }
  | _ => none }
def FnIsAlnumCoversHashAlphabetWrongFalsely : Prop := fnIsAlnumCoversHashAlphabetRow.holds Tryd.pinned (OpenSpec.ofChange fnIsAlnumCoversHashAlphabetWrong)

end Rows
end Go.Proofs.Qxb6615156aDoor
