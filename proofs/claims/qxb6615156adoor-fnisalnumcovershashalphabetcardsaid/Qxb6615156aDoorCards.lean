/-
  DERIVED. GIVEN WITH THE SEED: THE CARDS: each row of Qxb6615156aDoorRows.lean that lists a variable, with what it lists TIED to the program's text (the seventh form; the later family's looks); each row that meets fmt, with fmt's text TOLD by the authors' own Lean function (tested against real Go, not proved from fmt's source: count such statements apart). THE CARD IS WHAT COUNTS. Prove the row's statement (the work); the ties are given (Qxb6615156aDoorTie.lean); close each card by the builder's one call (the guide's Derived/Test/ToyasCard.lean, 'card_holds'). Laid BY PROGRAM, IN A SANDBOX (cutbox-door.mjs). By AI agents, Wed Nov 11 2026. No macro, syntax, notation, axiom, sorry.
-/
import Derived.Test.Qxb6615156aDoorRows
import GoSem.ClaimSeven
namespace Go.Proofs.Qxb6615156aDoor
namespace Rows

/-- THE TIED CARD OF 'zzlaws_internal_record_b1.FnIsHashSplitsAtAnyCut'. -/
def fnIsHashSplitsAtAnyCutCard : Claim7 := { stood := { row := fnIsHashSplitsAtAnyCutRow, standIns := [], harness := (true, "80e67a8472537f10c2b97e8732e4dbccf70a6f1b996c557479d919fcca6ccafe"), looks := false }, kinds := [], alts := [], laidByText := true, laidKinds := [.called], laidTests := true, laidLooks := .later }
def FnIsHashSplitsAtAnyCutCardSaid : Prop := Claim7.holds Tryd.pinned (.plain (OpenSpec.ofChange fnIsHashSplitsAtAnyCutSpec)) fnIsHashSplitsAtAnyCutCard

/-- THE TIED CARD OF 'zzlaws_internal_record_b1.FnIsHashRefusesUpperCase'. -/
def fnIsHashRefusesUpperCaseCard : Claim7 := { stood := { row := fnIsHashRefusesUpperCaseRow, standIns := [], harness := (true, "80e67a8472537f10c2b97e8732e4dbccf70a6f1b996c557479d919fcca6ccafe"), looks := false }, kinds := [], alts := [], laidByText := true, laidKinds := [.called], laidTests := true, laidLooks := .later }
def FnIsHashRefusesUpperCaseCardSaid : Prop := Claim7.holds Tryd.pinned (.plain (OpenSpec.ofChange fnIsHashRefusesUpperCaseSpec)) fnIsHashRefusesUpperCaseCard

/-- THE TIED CARD OF 'zzlaws_internal_record_b1.FnIsAlnumCoversHashAlphabet'. -/
def fnIsAlnumCoversHashAlphabetCard : Claim7 := { stood := { row := fnIsAlnumCoversHashAlphabetRow, standIns := [], harness := (true, "80e67a8472537f10c2b97e8732e4dbccf70a6f1b996c557479d919fcca6ccafe"), looks := false }, kinds := [], alts := [], laidByText := true, laidKinds := [.called], laidTests := true, laidLooks := .later }
def FnIsAlnumCoversHashAlphabetCardSaid : Prop := Claim7.holds Tryd.pinned (.plain (OpenSpec.ofChange fnIsAlnumCoversHashAlphabetSpec)) fnIsAlnumCoversHashAlphabetCard
end Rows
end Go.Proofs.Qxb6615156aDoor
