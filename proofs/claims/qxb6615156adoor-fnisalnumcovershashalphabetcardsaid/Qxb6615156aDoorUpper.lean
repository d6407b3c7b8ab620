/-
  The walk of upperAt: '[]byte(s)', one byte looked at and written, and back.
-/
import Derived.Test.Qxb6615156aDoorMakes
namespace Go.Proofs.Qxb6615156aDoor
open Go.ChangeShapes Go.WideShapes Go.ChangeAt Go.RowKit

theorem bytesWorld_below (w : World) (s : ByteArray) : Below w.heap.size w (Lib.bytesWorld w 5 s) :=
  ⟨rfl, rfl, rfl, by rw [Lib.bytesWorld_size]; omega, fun k hk => Lib.bytesWorld_at_old w 5 s k hk⟩

theorem bytesWorld_free (w : World) (s : ByteArray) (j : Nat) (hj : j < s.size) : (Lib.bytesWorld w 5 s).frozen? ⟨w.heap.size, j, none⟩ = false := by
  have h : j < (Lib.bytesCells w 5 s).size := by
    unfold Lib.bytesCells
    rw [Array.size_append, Array.size_map]
    have : s.data.size = s.size := rfl
    omega
  simp [World.frozen?, Lib.bytesWorld_at_new]
  omega

/-- the bytes as numbers -/
def numsOf (l : List UInt8) : List Int := l.map fun c => (c.toNat : Int)
theorem numsOf_at (l : List UInt8) (i : Nat) : (numsOf l).getD i 0 = ((l.getD i 0).toNat : Int) := by
  unfold numsOf
  rw [List.getD_eq_getElem?_getD, List.getD_eq_getElem?_getD, List.getElem?_map]
  cases l[i]? <;> rfl
theorem strOfNums_of (l : List UInt8) : strOfNums (numsOf l) = ⟨l.toArray⟩ := by
  unfold strOfNums numsOf
  rw [List.map_map]
  congr 2
  rw [show ((fun n : Int => UInt8.ofNat n.toNat) ∘ fun c : UInt8 => (c.toNat : Int)) = id from by
    funext c
    simp]
  rw [List.map_id]

/-- upperAt's answer -/
def upL (l : List UInt8) (i : Nat) : List UInt8 := l.set i (upC (l.getD i 0))

theorem getD_set_ne (l : List UInt8) (i j : Nat) (c : UInt8) (h : j ≠ i) : (l.set i c).getD j 0 = l.getD j 0 := by
  rw [List.getD_eq_getElem?_getD, List.getD_eq_getElem?_getD, List.getElem?_set_ne (by omega)]
theorem getD_set_eq (l : List UInt8) (i : Nat) (c : UInt8) (h : i < l.length) : (l.set i c).getD i 0 = c := by
  rw [List.getD_eq_getElem?_getD, List.getElem?_set_self h]
  rfl
theorem upC_yes (c : UInt8) (h1 : 97 ≤ c.toNat) (h2 : c.toNat ≤ 122) : ((upC c).toNat : Int) = (c.toNat : Int) - 32 := by
  unfold upC
  rw [if_pos ⟨h1, h2⟩, UInt8.toNat_ofNat']
  omega
theorem upC_no (c : UInt8) (h : ¬ (97 ≤ c.toNat ∧ c.toNat ≤ 122)) : upC c = c := by
  unfold upC
  rw [if_neg h]

set_option maxRecDepth 100000 in
theorem upper_yes (s : ByteArray) (i : Nat) (r : ByteArray) (cap : Nat) (x : Int) (w W1 : World) (hi : i < s.size) (_hs : s.size ≤ 9223372036854775807)
    (hconv : (convert 9 29 (.string s)).run Tryd.prog w = .ok (.slice (some ⟨w.heap.size, 0, none⟩) s.size cap) W1)
    (hc : W1.cell? ⟨w.heap.size, i, none⟩ = some (.int .u8 x)) (hf : W1.frozen? ⟨w.heap.size, i, none⟩ = false) (h1 : 97 ≤ x) (h2 : x ≤ 122)
    (hback : (convert 29 9 (.slice (some ⟨w.heap.size, 0, none⟩) s.size cap)).run Tryd.prog (W1.setCell ⟨w.heap.size, i, none⟩ (.int .u8 (x - 32))) = .ok (.string r) (W1.setCell ⟨w.heap.size, i, none⟩ (.int .u8 (x - 32)))) :
    Calls Tryd.prog 10 #[.string s, .int .i64 i] w fun e w' => e = .returned (.string r) ∧ w' = W1.setCell ⟨w.heap.size, i, none⟩ (.int .u8 (x - 32)) := by
  go_enter Tryd.func10, Tryd.ntmps10
  go_wp2
  go_ret
  exact ⟨rfl, rfl⟩

set_option maxRecDepth 100000 in
theorem upper_no (s : ByteArray) (i : Nat) (r : ByteArray) (cap : Nat) (x : Int) (w W1 : World) (hi : i < s.size) (_hs : s.size ≤ 9223372036854775807)
    (hconv : (convert 9 29 (.string s)).run Tryd.prog w = .ok (.slice (some ⟨w.heap.size, 0, none⟩) s.size cap) W1)
    (hc : W1.cell? ⟨w.heap.size, i, none⟩ = some (.int .u8 x)) (h : x < 97 ∨ 122 < x)
    (hback : (convert 29 9 (.slice (some ⟨w.heap.size, 0, none⟩) s.size cap)).run Tryd.prog W1 = .ok (.string r) W1) :
    Calls Tryd.prog 10 #[.string s, .int .i64 i] w fun e w' => e = .returned (.string r) ∧ w' = W1 := by
  rcases h with h | h
  · go_enter Tryd.func10, Tryd.ntmps10
    go_wp2
    go_ret
    exact ⟨rfl, rfl⟩
  · have h' : 97 ≤ x := by omega
    go_enter Tryd.func10, Tryd.ntmps10
    go_wp2
    go_ret
    exact ⟨rfl, rfl⟩

theorem upper_any (s : ByteArray) (i : Nat) (w : World) (hi : i < s.size) (hs : s.size ≤ maxLen) :
    Calls Tryd.prog 10 #[.string s, .int .i64 i] w fun e w' => e = .returned (.string ⟨(upL s.data.toList i).toArray⟩) ∧ Below w.heap.size w w' := by
  unfold maxLen at hs
  have hl : i < s.data.toList.length := by rw [size_list]; exact hi
  have hb := bytesWorld_below w s
  have hconv := Lib.run_convert_string_bytes (P := Tryd.prog) w 9 29 5 s Tryd.underlying9 Tryd.underlying29 Tryd.underlying5
  have hc : ∀ j, j < s.size → (Lib.bytesWorld w 5 s).cell? ⟨w.heap.size, j, none⟩ = some (.int .u8 ((s.data.toList.getD j 0).toNat : Int)) := fun j hj => Lib.bytesWorld_cell w 5 s j hj
  have hf := bytesWorld_free w s i hi
  generalize Lib.bytesWorld w 5 s = W1 at *
  by_cases h : 97 ≤ (s.data.toList.getD i 0).toNat ∧ (s.data.toList.getD i 0).toNat ≤ 122
  · have hback := run_convert_bytes_arg (P := Tryd.prog) (W1.setCell ⟨w.heap.size, i, none⟩ (.int .u8 (((s.data.toList.getD i 0).toNat : Int) - 32))) 29 5 Tryd.underlying29 Tryd.underlying5 w.heap.size 0 s.size (grownCap w s.size 0 5) (numsOf (upL s.data.toList i))
      (by unfold numsOf upL; rw [List.length_map, List.length_set, size_list])
      (fun j hj => by
        rw [Nat.zero_add, numsOf_at]
        unfold upL
        by_cases e : j = i
        · subst e
          rw [getD_set_eq _ _ _ hl, upC_yes _ h.1 h.2]
          exact World.cell?_setCell_same _ _ _ (hc j hj)
        · rw [getD_set_ne _ _ _ _ e]
          have hne : (⟨w.heap.size, i, none⟩ : Addr) ≠ ⟨w.heap.size, j, none⟩ := fun h => e (by cases h; rfl)
          exact (World.cell?_setCell_other (h := hne) ..).trans (hc j hj)) 9 Tryd.underlying9
    rw [strOfNums_of] at hback
    refine (upper_yes s i _ _ _ w W1 hi (by omega) hconv (hc i hi) hf (by omega) (by omega) hback).mono ?_
    rintro e w' ⟨rfl, rfl⟩
    exact ⟨rfl, hb.setCell (Nat.le_refl _) _⟩
  · have hback := run_convert_bytes_arg (P := Tryd.prog) W1 29 5 Tryd.underlying29 Tryd.underlying5 w.heap.size 0 s.size (grownCap w s.size 0 5) (numsOf (upL s.data.toList i))
      (by unfold numsOf upL; rw [List.length_map, List.length_set, size_list])
      (fun j hj => by
        rw [Nat.zero_add, numsOf_at]
        unfold upL
        rw [upC_no _ h]
        by_cases e : j = i
        · subst e
          rw [getD_set_eq _ _ _ hl]
          exact hc j hj
        · rw [getD_set_ne _ _ _ _ e]
          exact hc j hj) 9 Tryd.underlying9
    rw [strOfNums_of] at hback
    refine (upper_no s i _ _ _ w W1 hi (by omega) hconv (hc i hi) (by omega) hback).mono ?_
    rintro e w' ⟨rfl, rfl⟩
    exact ⟨rfl, hb⟩
end Go.Proofs.Qxb6615156aDoor
