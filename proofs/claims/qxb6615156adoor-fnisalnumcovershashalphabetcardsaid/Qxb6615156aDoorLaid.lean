/-
  What the rows' condition on 'lowerHex' gives the walks (TabOk), how the variable reads again behind the call, and the start that meets the condition (the door's own heap).
-/
import Derived.Test.Qxb6615156aDoorPlain
import Derived.LaidMore
import Derived.Stop.Joined
import Derived.WalkSmall
import Derived.Lib.LaidTab
import Derived.ShutString
namespace Go.Proofs.Qxb6615156aDoor
open Go.ChangeShapes Go.WideShapes Go.ChangeAt Go.RowKit

theorem own : ownKnob Tryd.prog.godebug = none := by kernel_rfl
/-- the variable's name, as the rows have it -/
def nHex : String := Rows.fnIsHashSplitsAtAnyCutSpec.vars.headD ""
theorem gHex : Tryd.prog.globalNamed nHex = some 0 := by kernel_rfl
theorem tHex : (Tryd.prog.globals[0]?).map (·.type) = some 31 := by kernel_rfl
theorem cells4 : Tryd.prog.cellsOf 4 = 1 := by kernel_rfl
theorem cells31 : Tryd.prog.cellsOf 31 = 256 := by kernel_rfl

/-- the listed data -/
def laidHex : List (String × DataW Unit) := Rows.fnIsHashSplitsAtAnyCutRow.laid
/-- the table's bools -/
def hexBs : List Bool := (List.range 256).map hexN
theorem hexBs_data {H : Type} : (Rows.laid_example_com_sealtrail_sealtrail_internal_record_lowerHex : DataW H) = .agg (hexBs.map fun b => .lit (.bool b)) := by kernel_rfl

/-- an array of bools that reads as the table holds the table's bools, cell for cell -/
theorem cells_of_bools {H : Type} {enc : TypeId × Value → H} {P : Program} {w : World} {base : Nat} {sp : Nat → Bool} {held : Bool} {fuel : Nat} {t e : TypeId} {n : Nat} {cs : List Value} {zs : List Bool} {p : List MemPlace}
    (ht : P.underlying t = some (.array n e)) (he : P.underlying e = some .bool) (hce : P.cellsOf e = 1) (hct : P.cellsOf t = n)
    (h : DataW.trod enc P w base sp held fuel t cs = some (.agg (zs.map fun b => .lit (.bool b)), p)) : cs = zs.map fun b => Value.bool b := by
  cases fuel with
  | zero => simp [DataW.trod] at h
  | succ fuel =>
    simp only [DataW.trod, ht, hce, hct, Nat.mul_one] at h
    split at h
    · rename_i hl
      obtain ⟨xs, hm, hx⟩ := Option.map_eq_some_iff.1 h
      have hxs : xs.map (·.1) = zs.map fun b => (DataW.lit (.bool b) : DataW H) := by
        have := congrArg Prod.fst hx
        simpa using this
      have hxl : xs.length = n := by simpa using Lib.mapM_length hm
      have hzl : zs.length = n := by
        have := congrArg List.length hxs
        simp at this
        omega
      apply List.ext_getElem?
      intro i
      by_cases hi : i < n
      · obtain ⟨b, hb, hf⟩ := Lib.mapM_at hm i i (by simp [hi])
        obtain ⟨z, hc, rfl⟩ := DataW.trod_bool he hf
        have h1 : cs[i]? = some (.bool z) := by
          have := congrArg (·[0]?) hc
          simpa [List.getElem?_take, List.getElem?_drop] using this
        have h2 : (xs.map (·.1))[i]? = some (DataW.lit (.bool z) : DataW H) := by simp [hb]
        rw [hxs] at h2
        simp only [List.getElem?_map, Option.map_eq_some_iff, DataW.lit.injEq, Lit.bool.injEq] at h2
        obtain ⟨z', hz', rfl⟩ := h2
        simp [h1, hz']
      · rw [List.getElem?_eq_none (by omega), List.getElem?_eq_none (by simp; omega)]
    · cases h

theorem var_of_laid {W : World} (h : laidMetH Tryd.prog laidHex W) : W.var? Tryd.prog nHex = some (hexBs.map fun b => Value.bool b).toArray := by
  rw [MakeChecks.laidMetH_plain _ _ _ (by kernel_rfl)] at h
  obtain ⟨ps, ⟨g0, t0, cs0, f0, p0, q0, hg0, ht0, hv0, hd0, _, _⟩, _, _⟩ := h
  obtain rfl := Option.some.inj (gHex.symm.trans hg0)
  obtain rfl := Option.some.inj (tHex.symm.trans ht0)
  rw [hexBs_data] at hd0
  refine hv0.trans ?_
  rw [← cells_of_bools Tryd.underlying31 Tryd.underlying4 cells4 cells31 hd0]

theorem tab_of_laid {W : World} (h : laidMetH Tryd.prog laidHex W) : TabOk W := by
  intro i hi
  have := World.var?_cell gHex (var_of_laid h) i
  rw [this]
  simp [hexBs, hi]

/-- the variable reads again, in whatever world that holds its cells -/
theorem reads_again {H : Type} (enc : TypeId × Value → H) {W W' : World} {sp : Nat → Bool} {fuel : Nat} {cs : List Value} {x : DataW H × List MemPlace} (h : DataW.trod enc Tryd.prog W 0 (fun _ => true) true fuel 31 cs = some x) (hc : cs = hexBs.map fun b => Value.bool b) :
    DataW.trod enc Tryd.prog W' 0 sp true 3 31 cs = some x ∧ x = (.agg (hexBs.map fun b => .lit (.bool b)), []) := by
  have r : ∀ (V : World) (sp : Nat → Bool), DataW.trod enc Tryd.prog V 0 sp true 3 31 (hexBs.map fun b => Value.bool b) = some (.agg (hexBs.map fun b => .lit (.bool b)), []) := fun V sp => by kernel_rfl
  subst hc
  obtain ⟨h1, h2⟩ := DataW.Trod.unique (v := .agg (hexBs.map fun b => Value.bool b).toArray) (d := x.1) (ps := x.2) ⟨fuel, h⟩ ⟨3, r W _⟩
  have e : x = (.agg (hexBs.map fun b => .lit (.bool b)), []) := Prod.ext h1 h2
  exact ⟨by rw [e]; exact r W' sp, e⟩

theorem door_met (os : Os) (args : Array Value) : laidMetH Tryd.prog laidHex ((World.doorLaid Tryd.prog 376 os).forCall (fun _ _ => 0) ⟨#[], args, []⟩).memory :=
  laidMetH_of_parts3 (fuel := 8) (laidMet_of_run' 8 (by kernel_rfl) (by kernel_rfl)) (by kernel_rfl) (by kernel_rfl)
end Go.Proofs.Qxb6615156aDoor
