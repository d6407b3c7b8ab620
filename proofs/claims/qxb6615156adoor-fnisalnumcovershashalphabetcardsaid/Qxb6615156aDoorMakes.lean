/-
  The walks of the functions that make memory: hexOf, upperAt, rep64.
-/
import Derived.Test.Qxb6615156aDoorWalks
import Derived.Deep.OwnRows
import Derived.Laws.BytesArg
import Derived.Lib.ConvBytes
namespace Go.Proofs.Qxb6615156aDoor
open Go.ChangeShapes Go.WideShapes Go.ChangeAt Go.RowKit

theorem info5 : (Tryd.prog.info? 5).map (fun i => (i.zero, i.size, i.bytes)) = some (some (Value.int IntKind.u8 0), 1, 1) := by kernel_rfl
theorem ret_str {a b : ByteArray} (h : a = b) : Ending.returned (.string a) = .returned (.string b) := by rw [h]

/-- the number that hexOf stores for a byte -/
def hexI (c : UInt8) : Int := hexD (bits .and .u8 (c.toNat : Int) 15)
/-- hexOf's byte for a byte -/
def hexC (c : UInt8) : UInt8 := UInt8.ofNat (hexI c).toNat
/-- upperAt's byte for a byte -/
def upC (c : UInt8) : UInt8 := if 97 ≤ c.toNat ∧ c.toNat ≤ 122 then UInt8.ofNat (c.toNat - 32) else c

theorem low_fin : ∀ c : Fin 256, (decide (0 ≤ bits .and .u8 (c.val : Int) 15) && decide (bits .and .u8 (c.val : Int) 15 < 16)) = true := by decide +kernel
theorem low_bd (c : UInt8) : 0 ≤ bits .and .u8 (c.toNat : Int) 15 ∧ bits .and .u8 (c.toNat : Int) 15 < 16 := by
  have h := low_fin ⟨c.toNat, c.toNat_lt⟩
  simp only [Bool.and_eq_true, decide_eq_true_eq] at h
  exact h

theorem getD_at (s : ByteArray) (k : Nat) (h : k < s.size) : s.data.toList.getD k 0 = s[k] := by
  have h' : k < s.data.toList.length := by rw [size_list]; exact h
  rw [List.getD_eq_getElem?_getD, List.getElem?_eq_getElem h']
  rfl

def nums (s : ByteArray) : List Int := s.data.toList.map hexI
def rowAt (s : ByteArray) (k j : Nat) : Value := if j < k then .int .u8 ((nums s).getD j 0) else .int .u8 0
theorem nums_length (s : ByteArray) : (nums s).length = s.size := by unfold nums; rw [List.length_map, size_list]
theorem nums_at (s : ByteArray) (k : Nat) (h : k < s.size) : (nums s).getD k 0 = hexI s[k] := by
  have h' : k < s.data.toList.length := by rw [size_list]; exact h
  unfold nums
  rw [List.getD_eq_getElem?_getD, List.getElem?_map, List.getElem?_eq_getElem h']
  rfl
theorem strOfNums_nums (s : ByteArray) : strOfNums (nums s) = ⟨(s.data.toList.map hexC).toArray⟩ := by
  unfold strOfNums nums
  rw [List.map_map]
  rfl

set_option maxRecDepth 100000 in
theorem hexOf_any (s : ByteArray) (w : World) (hs : s.size ≤ maxLen) (hb : s.size ≤ 281474976710656) :
    Calls Tryd.prog 8 #[.string s] w fun e w' => e = .returned (.string ⟨(s.data.toList.map hexC).toArray⟩) ∧ Below w.heap.size w w' := by
  unfold maxLen at hs
  have hmk : ∀ w : World, (Instr.makeSlice 29 (.int .i64 (s.size : Int)) (.int .i64 (s.size : Int))).run Tryd.prog w = .ok (.slice (some ⟨w.heap.size, 0, none⟩) s.size s.size) (w.alloc (.cells (madeCells #[.int .u8 0] s.size) 5)) := fun w =>
    run_make_row' (P := Tryd.prog) 29 5 (.int .u8 0) 1 Tryd.underlying29 info5 rfl .i64 .i64 s.size (by omega) (by omega) w
  go_enter Tryd.func8, Tryd.ntmps8
  go_wp2
  go_loopw [4] (fun i wr => ∃ k : Nat, k ≤ s.size ∧ i = .int .i64 k ∧ Hid (wr.rowIs w.heap.size 5 s.size (rowAt s k)) ∧ Hid (Below w.heap.size w wr)) (fun i _ => s.size - (intOf i).toNat)
  case atStart => exact ⟨0, Nat.zero_le _, rfl, (World.rowIs_made w _ _ _).congr (fun i _ => by simp [rowAt]), (Below.refl _ _).alloc (Nat.le_refl _) _⟩
  case round =>
    obtain ⟨k, hk, rfl, hrow, hbel⟩ := hrel
    clear hmk
    by_cases hlt : k < s.size
    · have hf := hrow.out.frozen k
      have hc := hrow.out.cell hlt
      go_wp2_with fail
      refine (hexDigit_any _ _ (low_bd _).1 (low_bd _).2).mono ?_
      rintro e w' ⟨rfl, rfl⟩
      go_wp2
      go_roundw
      case rel =>
        refine ⟨k + 1, by omega, by go_num, (hrow.out.set k _).congr (fun j hj => ?_), hbel.out.setCell (Nat.le_refl _) _⟩
        unfold rowAt
        by_cases e : j = k
        · subst e
          rw [if_pos rfl, if_pos (by omega), nums_at s j hlt]
          rfl
        · rw [if_neg e]
          by_cases e2 : j < k
          · rw [if_pos e2, if_pos (by omega)]
          · rw [if_neg e2, if_neg (by omega)]
      case measure => simp [intOf]; omega
    · have g := run_convert_bytes_arg (P := Tryd.prog) wr 29 5 Tryd.underlying29 Tryd.underlying5 w.heap.size 0 s.size s.size (nums s) (nums_length s) (fun i hi => by rw [Nat.zero_add, hrow.out.cell hi]; unfold rowAt; rw [if_pos (by omega)]) 9 Tryd.underlying9
      go_wp2
      go_ret
      exact ⟨ret_str (strOfNums_nums s), hbel.out⟩

def repL (c : Int) : List Int := List.replicate 64 c
theorem rep_length (c : Int) : (repL c).length = 64 := List.length_replicate
theorem rep_at (c : Int) (i : Nat) (hi : i < 64) : (repL c).getD i 0 = c := by
  unfold repL
  rw [List.getD_eq_getElem?_getD, List.getElem?_replicate, if_pos hi]
  rfl
theorem strOfNums_rep (c : Int) : strOfNums (repL c) = ⟨(List.replicate 64 (UInt8.ofNat c.toNat)).toArray⟩ := by
  unfold strOfNums repL
  rw [List.map_replicate]
def repAt (c : Int) (k j : Nat) : Value := if j < k then .int .u8 c else .int .u8 0
set_option maxRecDepth 100000 in
theorem rep64_any (c : Int) (w : World) :
    Calls Tryd.prog 12 #[.int .u8 c] w fun e w' => e = .returned (.string ⟨(List.replicate 64 (UInt8.ofNat c.toNat)).toArray⟩) ∧ Below w.heap.size w w' := by
  have hmk : ∀ w : World, (Instr.makeSlice 29 (.int .i64 64) (.int .i64 64)).run Tryd.prog w = .ok (.slice (some ⟨w.heap.size, 0, none⟩) 64 64) (w.alloc (.cells (madeCells #[.int .u8 0] 64) 5)) := fun w =>
    run_make_row' (P := Tryd.prog) 29 5 (.int .u8 0) 1 Tryd.underlying29 info5 rfl .i64 .i64 64 (by omega) (by omega) w
  go_enter Tryd.func12, Tryd.ntmps12
  go_wp2
  go_loopw [4] (fun i wr => ∃ k : Nat, k ≤ 64 ∧ i = .int .i64 k ∧ Hid (wr.rowIs w.heap.size 5 64 (repAt c k)) ∧ Hid (Below w.heap.size w wr)) (fun i _ => 64 - (intOf i).toNat)
  case atStart => exact ⟨0, Nat.zero_le _, rfl, (World.rowIs_made w _ _ _).congr (fun i _ => by simp [repAt]), (Below.refl _ _).alloc (Nat.le_refl _) _⟩
  case round =>
    obtain ⟨k, hk, rfl, hrow, hbel⟩ := hrel
    clear hmk
    by_cases hlt : k < 64
    · have hf := hrow.out.frozen k
      have hc := hrow.out.cell hlt
      go_wp2
      go_roundw
      case rel =>
        refine ⟨k + 1, by omega, by go_num, (hrow.out.set k _).congr (fun j hj => ?_), hbel.out.setCell (Nat.le_refl _) _⟩
        unfold repAt
        by_cases e : j = k
        · subst e
          rw [if_pos rfl, if_pos (by omega)]
        · rw [if_neg e]
          by_cases e2 : j < k
          · rw [if_pos e2, if_pos (by omega)]
          · rw [if_neg e2, if_neg (by omega)]
      case measure => simp [intOf]; omega
    · have g := run_convert_bytes_arg (P := Tryd.prog) wr 29 5 Tryd.underlying29 Tryd.underlying5 w.heap.size 0 64 64 (repL c) (rep_length c) (fun i hi => by rw [Nat.zero_add, hrow.out.cell hi, rep_at c i hi]; unfold repAt; rw [if_pos (by omega)]) 9 Tryd.underlying9
      go_wp2
      go_ret
      exact ⟨ret_str (strOfNums_rep c), hbel.out⟩
end Go.Proofs.Qxb6615156aDoor
