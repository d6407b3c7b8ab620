/-
  The proof of 'Rows.FnIsHashSplitsAtAnyCutCardSaid': the row from the walk, then the tied card by the builder's one call. The frame follows the guide's worked example of a tied card, turned to this program.
-/
import Derived.Test.Qxb6615156aDoorCards
import Derived.Test.Qxb6615156aDoorTie
import Derived.Test.Qxb6615156aDoorLaid
import Derived.Test.Qxb6615156aDoorSplits
import Derived.SevenTiedAt
namespace Go.Proofs.Qxb6615156aDoor.fnIsHashSplitsAtAnyCut
open Go.ChangeShapes Go.WideShapes Go.ChangeAt Go.RowKit
open Go.ChangeMaps (open_string shut_string)

theorem walk (s : ByteArray) (k : Int) (w : World) (hs : s.size ≤ maxLen) (hT : TabOk w) :
    Calls Tryd.prog 3 #[.string s, .int .i64 k] w fun e w' => e = .returned (.bool true) ∧ Below w.heap.size w w' := by
  by_cases hl : s.size ≤ 1048576
  · by_cases h0 : k < 0
    · exact (splits_out s k w hl (Or.inl h0)).mono (by rintro e w' ⟨rfl, rfl⟩; exact ⟨rfl, Below.refl _ _⟩)
    · by_cases h1 : (s.size : Int) < k
      · exact (splits_out s k w hl (Or.inr h1)).mono (by rintro e w' ⟨rfl, rfl⟩; exact ⟨rfl, Below.refl _ _⟩)
      · obtain ⟨i, rfl⟩ := Int.eq_ofNat_of_zero_le (show 0 ≤ k by omega)
        exact splits_in s i w hl (by omega) hT
  · exact (splits_long s k w hs (by omega)).mono (by rintro e w' ⟨rfl, rfl⟩; exact ⟨rfl, Below.refl _ _⟩)

set_option maxRecDepth 100000 in
theorem lifted (os : Os) (started : os.Started) (H : Type) (enc : TypeId × Value → H) :
    ReturnsInHanded {} Tryd.checked os 3 .any (fun w args => (Rows.fnIsHashSplitsAtAnyCutSpec.pre enc Tryd.prog Tryd.f3 [] false w args ∧ laidMetH Tryd.prog laidHex w) ∧ sizedMet enc Tryd.prog Tryd.f3 (OpenSpec.ofChange Rows.fnIsHashSplitsAtAnyCutSpec) false w args)
      (Rows.fnIsHashSplitsAtAnyCutSpec.post enc Tryd.prog Tryd.f3 false true false false) := by
  refine returnsInHanded_of_change_and (C := Tryd.checked) (X := fun w _ => laidMetH Tryd.prog laidHex w) (fun _ _ _ hh h => h.of_heap hh) own started (by kernel_rfl) Tryd.func3
    (ChangeSpec.witness_shaped (enc := enc) (C := Tryd.checked) (os := os) (X := fun w _ => laidMetH Tryd.prog laidHex w) false (World.doorLaid Tryd.prog 376 os) #[.string ⟨#[]⟩, .int .i64 0] 8 rfl (World.shaped_of_RefB (by kernel_rfl) (by kernel_rfl)) (by kernel_rfl) (by kernel_rfl) (by kernel_rfl) (door_met os _)) ?_
  intro W base args ds gs before hval0 hW _ _ hL _
  have hval : ∀ (j : Nat) t v, Tryd.f3.params[j]? = some t → args[j]? = some v → Value.okWide Tryd.prog W .any base t v := hval0
  have hW' := hW
  obtain ⟨p, q, hA0, hV0, rfl, hfz, hnd⟩ := hW
  have hA : DataW.TrodAll enc Tryd.prog W 0 (fun _ => true) true Tryd.f3.params.toList args.toList ds p := hA0
  have hV : DataW.TrodVars enc Tryd.prog W (fun _ => true) [nHex] gs q := hV0
  rw [Tryd.params3] at hA hval
  obtain ⟨v0, v1, d0, d1, p0, p1, rfl, rfl, rfl, h0, h1⟩ := trodAll_two hA
  obtain ⟨s, rfl, rfl, rfl, hs⟩ := open_string Tryd.underlying9 (hval 0 9 v0 rfl rfl) h0
  obtain ⟨k, rfl, rfl, rfl, wk⟩ := open_int Tryd.underlying3 (hval 1 3 v1 rfl rfl) h1
  obtain ⟨g, t, cs, fuel, d, p', rfl, hg, ht, hvar, hd, rfl⟩ := trodVars_one hV
  obtain rfl := Option.some.inj (gHex.symm.trans hg)
  obtain rfl := Option.some.inj (tHex.symm.trans ht)
  have hcs : cs = (hexBs.map fun b => Value.bool b).toArray := Option.some.inj (hvar.symm.trans (var_of_laid hL))
  have hT := tab_of_laid hL
  have h0lt : 0 < W.heap.size := hT.pos
  clear hA0 hV0 hval0
  refine (walk s k W hs hT).mono fun e W' ⟨he, hB⟩ => ?_
  subst he
  refine ⟨_, rfl, _, _, _, [], [], MemPlace.row ⟨0, 0, none⟩ cs.size ++ p', hW', ?_, ?_, ?_, hB.frame _, fun h => by cases h⟩
  · exact trodAll_mk1 (shut_bool Tryd.underlying4 _)
  · exact trodAll_mk2 (shut_string Tryd.underlying9 hs) (shut_int Tryd.underlying3 wk)
  · exact trodVars_mk1 gHex tHex (var?_below hB gHex h0lt hvar) (reads_again enc hd (by rw [hcs])).1

theorem row_holds : Rows.FnIsHashSplitsAtAnyCutSaid :=
  OpenClaim.holds_of_wide 3 Tryd.f3 rfl rfl rfl rfl rfl rfl rfl ⟨rfl, rfl, rfl, rfl, rfl⟩ rfl rfl rfl rfl rfl (by kernel_rfl) Tryd.func3 (by kernel_rfl)
    (of_decide_eq_true (by kernel_rfl)) (by unfold Func.isWrapper; first | (rw [if_pos (by decide +kernel)]; kernel_rfl) | (rw [if_neg (by decide +kernel)]; exact ⟨rfl, rfl⟩))
    (fun os started H enc _ => lifted os started H enc)
end Go.Proofs.Qxb6615156aDoor.fnIsHashSplitsAtAnyCut

namespace Go.Proofs.Qxb6615156aDoor
/-- the statement: the tied card -/
theorem fnIsHashSplitsAtAnyCut_card : Rows.FnIsHashSplitsAtAnyCutCardSaid :=
  Claim7.holds_tied_plain_at .later [] [.called] true (true, "80e67a8472537f10c2b97e8732e4dbccf70a6f1b996c557479d919fcca6ccafe") false
    fnIsHashSplitsAtAnyCut.row_holds (fun _ h => by cases h) (by kernel_rfl) (fun _ h => by cases h) fnIsHashSplitsAtAnyCut_row_tie rfl ⟨rfl, rfl⟩ (by kernel_rfl) rfl
    (fun f fn hf hfn => by
      obtain rfl : f = 3 := Option.some.inj ((show Tryd.prog.funcNamed Rows.fnIsHashSplitsAtAnyCutRow.func = some 3 by kernel_rfl).symm.trans hf) |>.symm
      obtain rfl : fn = Tryd.f3 := (Option.some.inj (Tryd.func3.symm.trans hfn)).symm
      exact ⟨by kernel_rfl, fun j t ht => by
        rw [Tryd.params3] at ht
        have hm : t ∈ [9, 3] := by simpa using Array.mem_of_getElem? ht
        have hall : ([9, 3].all fun u => !Tryd.prog.wantsStandIn u) = true := by kernel_rfl
        exact (show Tryd.prog.wantsStandIn t = false by simpa using List.all_eq_true.1 hall t hm)⟩)
    (by kernel_rfl)
end Go.Proofs.Qxb6615156aDoor
