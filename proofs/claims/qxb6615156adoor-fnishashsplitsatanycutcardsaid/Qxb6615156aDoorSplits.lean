/-
  The walk of FnIsHashSplitsAtAnyCut, out of the contracts. Two of its statements leave the order of a call and a slicing open: each is cut around.
-/
import Derived.Test.Qxb6615156aDoorPlain
import Derived.Deep.RegionWith
import Derived.Deep.DeepCutAuto
import Derived.Lib.Strings
namespace Go.Proofs.Qxb6615156aDoor
open Go.ChangeShapes Go.WideShapes Go.ChangeAt Go.RowKit

theorem ext_left (s : ByteArray) (k : Nat) : (s.extract 0 k).data.toList = s.data.toList.take k := by
  rw [Lib.extract_data]
  rfl
theorem ext_right (s : ByteArray) (k : Nat) : (s.extract k s.size).data.toList = s.data.toList.drop k := by
  rw [Lib.extract_data, List.take_of_length_le (by rw [List.length_drop, size_list]; exact Nat.le_refl _)]
theorem ext_le (s : ByteArray) (a b : Nat) {n : Nat} (h : s.size ≤ n) : (s.extract a b).size ≤ n := by
  rw [← size_list, Lib.extract_data, List.length_take, List.length_drop, size_list]
  omega
theorem hex_size {r a : ByteArray} {n : Nat} (h : r.data.toList = a.data.toList.map hexC) (ha : a.size ≤ n) : r.size ≤ n := by
  rw [size_of h, List.length_map, size_list]
  exact ha
/-- IsHash of the text with its left part made hex -/
theorem cat_left (s r : ByteArray) (k : Nat) (B : Bool) (w : World) (hr : r.data.toList = (s.extract 0 k).data.toList.map hexC) (hs : s.size ≤ 1048576) (hT : TabOk w)
    (hB : hashL ((s.data.toList.take k).map hexC ++ s.data.toList.drop k) = B) :
    Calls Tryd.prog 7 #[.string (r ++ s.extract k s.size)] w fun e w' => e = .returned (.bool B) ∧ w' = w :=
  isHash_eq _ _ w (by
    have h1 := hex_size hr (ext_le s 0 k hs)
    have h2 := ext_le s k s.size hs
    rw [ByteArray.size_append]
    omega) hT (by rw [ByteArray.data_append, Array.toList_append, hr, ext_left, ext_right, hB])
/-- IsHash of the text with its right part made hex -/
theorem cat_right (s r : ByteArray) (k : Nat) (B : Bool) (w : World) (hr : r.data.toList = (s.extract k s.size).data.toList.map hexC) (hs : s.size ≤ 1048576) (hT : TabOk w)
    (hB : hashL (s.data.toList.take k ++ (s.data.toList.drop k).map hexC) = B) :
    Calls Tryd.prog 7 #[.string (s.extract 0 k ++ r)] w fun e w' => e = .returned (.bool B) ∧ w' = w :=
  isHash_eq _ _ w (by
    have h1 := hex_size hr (ext_le s k s.size hs)
    have h2 := ext_le s 0 k hs
    rw [ByteArray.size_append]
    omega) hT (by rw [ByteArray.data_append, Array.toList_append, hr, ext_left, ext_right, hB])

set_option maxRecDepth 100000 in
theorem splits_long (s : ByteArray) (i : Int) (w : World) (hs : s.size ≤ maxLen) (h : 1048576 < s.size) :
    Calls Tryd.prog 3 #[.string s, .int .i64 i] w fun e w' => e = .returned (.bool true) ∧ w' = w := by
  have hd : decide (s.size ≤ 1048576) = false := decide_eq_false (by omega)
  go_enter Tryd.func3, Tryd.ntmps3
  go_wp2_with (go_at_call 6; refine (bytes3_any _ _ _ hs).mono ?_; rintro e w' ⟨rfl, rfl⟩)
  go_ret
  exact ⟨rfl, rfl⟩

set_option maxRecDepth 100000 in
theorem splits_out (s : ByteArray) (i : Int) (w : World) (hs : s.size ≤ 1048576) (h : i < 0 ∨ (s.size : Int) < i) :
    Calls Tryd.prog 3 #[.string s, .int .i64 i] w fun e w' => e = .returned (.bool true) ∧ w' = w := by
  have hd : decide (s.size ≤ 1048576) = true := decide_eq_true hs
  have hs' : (s.size : Int) ≤ 1048576 := by omega
  have hm : s.size ≤ maxLen := by unfold maxLen; omega
  rcases h with h | h
  · go_enter Tryd.func3, Tryd.ntmps3
    go_wp2_with (go_at_call 6; refine (bytes3_any _ _ _ hm).mono ?_; rintro e w' ⟨rfl, rfl⟩)
    go_ret
    exact ⟨rfl, rfl⟩
  · have h0 : 0 ≤ i := by omega
    go_enter Tryd.func3, Tryd.ntmps3
    go_wp2_with (go_at_call 6; refine (bytes3_any _ _ _ hm).mono ?_; rintro e w' ⟨rfl, rfl⟩)
    go_ret
    exact ⟨rfl, rfl⟩

set_option maxRecDepth 100000 in
set_option maxHeartbeats 1000000 in
theorem splits_in (s : ByteArray) (k : Nat) (w : World) (hs : s.size ≤ 1048576) (hk : k ≤ s.size) (hT : TabOk w) :
    Calls Tryd.prog 3 #[.string s, .int .i64 k] w fun e w' => e = .returned (.bool true) ∧ Below w.heap.size w w' := by
  have hd : decide (s.size ≤ 1048576) = true := decide_eq_true hs
  have hs' : (s.size : Int) ≤ 1048576 := by omega
  have hk' : (k : Int) ≤ (s.size : Int) := by omega
  have hm : s.size ≤ maxLen := by unfold maxLen; omega
  have HT : Hid (TabOk w) := hT
  clear hT
  go_enter Tryd.func3, Tryd.ntmps3
  go_wp2_with fail
  refine (bytes3_any _ _ _ hm).mono ?_
  rintro e w' ⟨rfl, rfl⟩
  go_wp2_with fail
  obtain ⟨A, hA⟩ : ∃ A, hashL s.data.toList = A := ⟨_, rfl⟩
  refine (isHash_eq s A _ (by omega) HT.out hA).mono ?_
  have HA : Hid (hashL s.data.toList = A) := hA
  clear hA
  rintro e w2 ⟨rfl, rfl⟩
  have z1 : Hid ((s.extract 0 k).size ≤ 1048576) := ext_le s 0 k hs
  have z2 : Hid ((s.extract k s.size).size ≤ 1048576) := ext_le s k s.size hs
  obtain ⟨L, hL⟩ : ∃ L, Hid (hashL ((s.data.toList.take k).map hexC ++ s.data.toList.drop k) = L) := ⟨_, rfl⟩
  obtain ⟨R, hR⟩ : ∃ R, Hid (hashL (s.data.toList.take k ++ (s.data.toList.drop k).map hexC) = R) := ⟨_, rfl⟩
  have hC : Hid (A = (L && R)) := by
    show A = _
    rw [← HA.out, ← hL.out, ← hR.out, ← hash_cut, List.take_append_drop]
  clear HA
  go_upto_region 8 with fail
  go_cut [6] from 9 (fun v wx => v = .bool L ∧ Hid (Below w2.heap.size w2 wx))
  case first =>
    go_region_with (first | (go_at_call 8; refine (hexOf_ex _ _ z1.out).mono ?_; rintro e w3 ⟨r, rfl, hr, hb3⟩; have br : r.size ≤ 1048576 := hex_size hr.out z1.out; have B3 : Hid (Below w2.heap.size w2 w3) := (Below.refl _ w2).drew.trans hb3; clear hb3) | (go_at_call 7; refine (cat_left _ _ _ _ _ hr.out hs (HT.out.below (w' := w3) B3.out HT.out.pos) hL.out).mono ?_; rintro e w4 ⟨rfl, rfl⟩))
    go_wp2_with fail
    go_meet
    case rel => exact ⟨rfl, B3.out⟩
  case rest =>
    obtain ⟨rfl, C1⟩ := hcut
    obtain ⟨w5, hw5⟩ : ∃ w5, w5 = wc := ⟨_, rfl⟩
    subst hw5
    go_upto_region 9 with fail
    go_cut [7] from 9 (fun v wx => v = .bool R ∧ Hid (Below w2.heap.size w2 wx))
    case first =>
      go_region_with (first | (go_at_call 8; refine (hexOf_ex _ _ z2.out).mono ?_; rintro e w6 ⟨r, rfl, hr, hb6⟩; have br : r.size ≤ 1048576 := hex_size hr.out z2.out; have B6 : Hid (Below w2.heap.size w2 w6) := C1.out.drew.trans (hb6.mono C1.out.size); clear hb6) | (go_at_call 7; refine (cat_right _ _ _ _ _ hr.out hs (HT.out.below (w' := w6) B6.out HT.out.pos) hR.out).mono ?_; rintro e w7 ⟨rfl, rfl⟩))
      go_wp2_with fail
      go_meet
      case rel => exact ⟨rfl, B6.out⟩
    case rest =>
      obtain ⟨rfl, C2⟩ := hcut
      go_wp2_with fail
      refine (hexOf_ex s _ hs).mono ?_
      rintro e w8 ⟨r, rfl, hr, hb8⟩
      have B8 : Hid (Below w2.heap.size w2 w8) := C2.out.trans (hb8.mono C2.out.size)
      clear hb8
      have br : r.size ≤ 1048576 := hex_size hr.out hs
      have hD : hashL r.data.toList = ((s.size : Int) == 64) := by
        rw [hr.out, hash_map, size_list, Bool.eq_iff_iff, decide_eq_true_eq, beq_iff_eq]
        omega
      cases h64 : ((s.size : Int) == 64)
      all_goals
        rw [h64] at hD
        go_wp2_with fail
        refine (isHash_eq r _ _ (by omega) (HT.out.below B8.out HT.out.pos) hD).mono ?_
        rintro e w9 ⟨rfl, rfl⟩
        have eC := hC.out
        cases L
        all_goals
          cases R
          all_goals
            simp only [Bool.and_true, Bool.and_false] at eC
            subst eC
            go_wp2
            go_ret
            exact ⟨rfl, B8.out⟩
end Go.Proofs.Qxb6615156aDoor
