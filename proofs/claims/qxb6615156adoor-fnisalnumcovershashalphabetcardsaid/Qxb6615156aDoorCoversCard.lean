/-
  The proof of 'Rows.FnIsAlnumCoversHashAlphabetCardSaid': the row from the walk, then the tied card by the builder's one call. The frame follows the guide's worked example of a tied card, turned to this program.
-/
import Derived.Test.Qxb6615156aDoorCards
import Derived.Test.Qxb6615156aDoorTie
import Derived.Test.Qxb6615156aDoorLaid
import Derived.Test.Qxb6615156aDoorCovers
import Derived.SevenTiedAt
namespace Go.Proofs.Qxb6615156aDoor.fnIsAlnumCoversHashAlphabet
open Go.ChangeShapes Go.WideShapes Go.ChangeAt Go.RowKit
open Go.ChangeMaps (open_string shut_string)

set_option maxRecDepth 100000 in
theorem lifted (os : Os) (started : os.Started) (H : Type) (enc : TypeId × Value → H) :
    ReturnsInHanded {} Tryd.checked os 5 .any (fun w args => (Rows.fnIsAlnumCoversHashAlphabetSpec.pre enc Tryd.prog Tryd.f5 [] false w args ∧ laidMetH Tryd.prog laidHex w) ∧ sizedMet enc Tryd.prog Tryd.f5 (OpenSpec.ofChange Rows.fnIsAlnumCoversHashAlphabetSpec) false w args)
      (Rows.fnIsAlnumCoversHashAlphabetSpec.post enc Tryd.prog Tryd.f5 false true false false) := by
  refine returnsInHanded_of_change_and (C := Tryd.checked) (X := fun w _ => laidMetH Tryd.prog laidHex w) (fun _ _ _ hh h => h.of_heap hh) own started (by kernel_rfl) Tryd.func5
    (ChangeSpec.witness_shaped (enc := enc) (C := Tryd.checked) (os := os) (X := fun w _ => laidMetH Tryd.prog laidHex w) false (World.doorLaid Tryd.prog 376 os) #[] 8 rfl (World.shaped_of_RefB (by kernel_rfl) (by kernel_rfl)) (by kernel_rfl) (by kernel_rfl) (by kernel_rfl) (door_met os _)) ?_
  intro W base args ds gs before hval0 hW _ _ hL _
  have hval : ∀ (j : Nat) t v, Tryd.f5.params[j]? = some t → args[j]? = some v → Value.okWide Tryd.prog W .any base t v := hval0
  have hW' := hW
  obtain ⟨p, q, hA0, hV0, rfl, hfz, hnd⟩ := hW
  have hA : DataW.TrodAll enc Tryd.prog W 0 (fun _ => true) true Tryd.f5.params.toList args.toList ds p := hA0
  have hV : DataW.TrodVars enc Tryd.prog W (fun _ => true) [nHex] gs q := hV0
  rw [Tryd.params5] at hA hval
  obtain ⟨rfl, rfl, rfl⟩ := trodAll_none hA
  obtain ⟨g, t, cs, fuel, d, p', rfl, hg, ht, hvar, hd, rfl⟩ := trodVars_one hV
  obtain rfl := Option.some.inj (gHex.symm.trans hg)
  obtain rfl := Option.some.inj (tHex.symm.trans ht)
  have hcs : cs = (hexBs.map fun b => Value.bool b).toArray := Option.some.inj (hvar.symm.trans (var_of_laid hL))
  have hT := tab_of_laid hL
  have h0lt : 0 < W.heap.size := hT.pos
  clear hA0 hV0 hval0
  refine (covers_any W hT).mono fun e W' ⟨he, hB⟩ => ?_
  subst he
  refine ⟨_, rfl, _, _, _, [], [], MemPlace.row ⟨0, 0, none⟩ cs.size ++ p', hW', ?_, ?_, ?_, hB.frame _, fun h => by cases h⟩
  · exact trodAll_mk1 (shut_bool Tryd.underlying4 _)
  · exact trodAll_mk0
  · exact trodVars_mk1 gHex tHex (var?_below hB gHex h0lt hvar) (reads_again enc hd (by rw [hcs])).1

theorem row_holds : Rows.FnIsAlnumCoversHashAlphabetSaid :=
  OpenClaim.holds_of_wide 5 Tryd.f5 rfl rfl rfl rfl rfl rfl rfl ⟨rfl, rfl, rfl, rfl, rfl⟩ rfl rfl rfl rfl rfl (by kernel_rfl) Tryd.func5 (by kernel_rfl)
    (of_decide_eq_true (by kernel_rfl)) (by unfold Func.isWrapper; first | (rw [if_pos (by decide +kernel)]; kernel_rfl) | (rw [if_neg (by decide +kernel)]; exact ⟨rfl, rfl⟩))
    (fun os started H enc _ => lifted os started H enc)
end Go.Proofs.Qxb6615156aDoor.fnIsAlnumCoversHashAlphabet

namespace Go.Proofs.Qxb6615156aDoor
/-- the statement: the tied card -/
theorem fnIsAlnumCoversHashAlphabet_card : Rows.FnIsAlnumCoversHashAlphabetCardSaid :=
  Claim7.holds_tied_plain_at .later [] [.called] true (true, "80e67a8472537f10c2b97e8732e4dbccf70a6f1b996c557479d919fcca6ccafe") false
    fnIsAlnumCoversHashAlphabet.row_holds (fun _ h => by cases h) (by kernel_rfl) (fun _ h => by cases h) fnIsAlnumCoversHashAlphabet_row_tie rfl ⟨rfl, rfl⟩ (by kernel_rfl) rfl
    (fun f fn hf hfn => by
      obtain rfl : f = 5 := Option.some.inj ((show Tryd.prog.funcNamed Rows.fnIsAlnumCoversHashAlphabetRow.func = some 5 by kernel_rfl).symm.trans hf) |>.symm
      obtain rfl : fn = Tryd.f5 := (Option.some.inj (Tryd.func5.symm.trans hfn)).symm
      exact ⟨by kernel_rfl, fun j t ht => by
        rw [Tryd.params5] at ht
        simp at ht⟩)
    (by kernel_rfl)
end Go.Proofs.Qxb6615156aDoor
