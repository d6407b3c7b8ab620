/-
  What the rows' arguments give the walks: a slice of bytes that came in; the start that meets the condition on the listed variable.
-/
import Derived.Test.Qxb6615679aFmtMain3
import Derived.Stop.JoinedTold
import Derived.Deep.DeepWitnessRef
import Derived.LaidMore
import Derived.LaidByTextLater
import Derived.SizedLaws
import Derived.OpenShut
import Derived.Carry
import Derived.ProofKit
namespace Go.Proofs.Qxb6615679aFmt
open Go.ChangeShapes Go.WideShapes Go.ChangeAt Go.RowKit Go.Deep
open Go.Extern.Stop Go.Stop Go.Extern

theorem own : ownKnob Tryf.prog.godebug = none := by kernel_rfl
theorem laidOut : laidOutB Tryf.prog = true := by kernel_rfl
theorem cells5 : Tryf.prog.cellsOf 5 = 1 := by kernel_rfl
theorem read25 : Tryf.prog.readableRec 25 = true := by kernel_rfl
theorem lt25 : 25 < Tryf.prog.types.size := of_decide_eq_true (by kernel_rfl)
theorem bytes5 : Tryf.prog.bytesOf 5 = 1 := by kernel_rfl

section
variable {H : Type} {enc : TypeId × Value → H}

set_option maxRecDepth 100000 in
theorem open_src {W : World} {base : Nat} {v : Value} {d : DataW H} {p : List MemPlace} (hval : Value.okWide Tryf.prog W .any base 25 v) (h : DataW.Trod enc Tryf.prog W 0 (fun _ => true) true 25 v d p)
    (hw : ∀ elems spare, d = .slice elems spare → (elems.length + spare.length) * Tryf.prog.bytesOf 5 ≤ reachBytes) :
    ∃ l : List UInt8, SrcV W.heap.size v l W ∧ ∀ x ∈ p, x.block < W.heap.size := by
  obtain ⟨a1, len, cap, rfl⟩ := okWide_slice Tryf.underlying25 hval
  obtain ⟨fuel, hf⟩ := h
  rcases open_ints Tryf.underlying25 Tryf.underlying5 cells5 hf with ⟨hcs, hx⟩ | ⟨a, len', cap', zs, hcs, _, hl, hm, hz, hx, hcell, hwz⟩
  · simp [Value.cells] at hcs
    obtain ⟨rfl, rfl, rfl⟩ := hcs
    simp only [Prod.mk.injEq] at hx
    obtain ⟨rfl, rfl⟩ := hx
    exact ⟨[], ⟨none, 0, rfl, Nat.le_refl _, Nat.zero_le _, .inl ⟨rfl, rfl, rfl⟩⟩, fun _ h => (by cases h)⟩
  · simp [Value.cells] at hcs
    obtain ⟨rfl, rfl, rfl⟩ := hcs
    simp only [Prod.mk.injEq] at hx
    obtain ⟨rfl, rfl⟩ := hx
    simp only [if_true] at hz
    have hcapb := hw _ _ rfl
    rw [bytes5] at hcapb
    simp only [Value.okWide, Tryf.underlying25, Cell.okWide, Cell.ok] at hval
    obtain ⟨_, _, _, hspot, row, cells, hsh, _⟩ := hval
    obtain ⟨ab, ao, spot⟩ := a
    simp only at hspot
    subst hspot
    have hlt : ab < W.heap.size := by
      rcases Nat.lt_or_ge ab W.heap.size with h | h
      · exact h
      · simp [World.shape?, Array.getElem?_eq_none h] at hsh
    have hcap : cap ≤ 140737488355328 := by
      have hr := reachBytes_lt
      simp [lits] at hcapb
      omega
    have hlen : ((zs.take len).map fun n => UInt8.ofNat n.toNat).length = len := by simp; omega
    refine ⟨(zs.take len).map fun n => UInt8.ofNat n.toNat, ⟨some ⟨ab, ao, none⟩, cap, by rw [hlen], by rw [hlen]; exact hl, hcap, .inr ⟨ab, ao, rfl, hlt, ?_⟩⟩, fun x hx => ?_⟩
    · intro i v hv
      have hi : i < len := by
        have := (List.getElem?_eq_some_iff.mp hv).1
        simp [Lib.byteCells] at this
        omega
      have hcj := hcell i (by omega)
      rw [Addr.add_lit] at hcj
      rw [hcj]
      have hb := range_u8 hwz i
      have e : zs.getD i 0 = zs[i]'(by omega) := by simp [List.getD, List.getElem?_eq_getElem (show i < zs.length by omega)]
      rw [← hv]
      unfold Lib.byteCells
      rw [List.getElem?_map, List.getElem?_map, List.getElem?_take, if_pos hi, List.getElem?_eq_getElem (show i < zs.length by omega)]
      rw [List.getD_eq_getElem?_getD] at e ⊢
      rw [e] at hb ⊢
      simp only [Option.map_some, UInt8.toNat_ofNat']
      congr 2
      omega
    · simp only [MemPlace.row, List.mem_map] at hx
      obtain ⟨i, _, rfl⟩ := hx
      exact hlt
end

theorem nat_of {k : IntKind} {n : Int} (h : (Lit.int k n).wf = true) (hs : k.min = 0) : ∃ m : Nat, n = m ∧ (m : Int) ≤ k.max := by
  simp only [Lit.wf, Bool.and_eq_true, decide_eq_true_eq] at h
  obtain ⟨m, rfl⟩ := Int.eq_ofNat_of_zero_le (show 0 ≤ n by omega)
  exact ⟨m, rfl, h.2⟩

/-- the listed datum -/
def laidShort : List (String × DataW Unit) := Rows.fnWriteRequestParsesBackRow.laid
theorem door_met (os : Os) (args : Array Value) : laidMetH Tryf.prog laidShort ((World.doorLaid Tryf.prog 147 os).forCall (fun _ _ => 0) ⟨#[], args, []⟩).memory :=
  laidMetH_of_parts3 (fuel := 8) (laidMet_of_run' 8 (by kernel_rfl) (by kernel_rfl)) (by kernel_rfl) (by kernel_rfl)
end Go.Proofs.Qxb6615679aFmt
