/-
  The walk of FnIsHashRefusesUpperCase, out of the contracts.
-/
import Derived.Test.Qxb6615156aDoorPlain
namespace Go.Proofs.Qxb6615156aDoor
open Go.ChangeShapes Go.WideShapes Go.ChangeAt Go.RowKit

theorem refuse_cases (n x y : Nat) (A B C : Bool) (hB : B = (A && !(decide (97 ≤ x) && decide (x ≤ 122)))) (hC : C = (decide (n = 64) && decide (y ≤ 57))) :
    ((((n : Int) == 64) = true ∧ (((y : Int) ≤ 57 ∧ C = true) ∨ (57 < (y : Int) ∧ C = false))) ∨ (((n : Int) == 64) = false ∧ C = false)) ∧
    (((x : Int) < 97 ∧ B = A) ∨ (97 ≤ (x : Int) ∧ 122 < (x : Int) ∧ B = A) ∨ (97 ≤ (x : Int) ∧ (x : Int) ≤ 122 ∧ B = false)) := by
  subst hB hC
  constructor
  · by_cases h : n = 64
    · left
      refine ⟨by rw [beq_iff_eq]; omega, ?_⟩
      by_cases h' : y ≤ 57
      · left
        exact ⟨by omega, by simp [h, h']⟩
      · right
        exact ⟨by omega, by simp [h']⟩
    · right
      exact ⟨by rw [beq_eq_false_iff_ne]; omega, by simp [h]⟩
  · by_cases h : 97 ≤ x
    · by_cases h' : x ≤ 122
      · right; right
        exact ⟨by omega, by omega, by simp [h, h']⟩
      · right; left
        exact ⟨by omega, by omega, by simp [h']⟩
    · left
      exact ⟨by omega, by simp [h]⟩

set_option maxRecDepth 100000 in
theorem refuses_long (s : ByteArray) (i : Int) (w : World) (hs : s.size ≤ maxLen) (h : 1048576 < s.size) :
    Calls Tryd.prog 4 #[.string s, .int .i64 i] w fun e w' => e = .returned (.bool true) ∧ w' = w := by
  have hd : decide (s.size ≤ 1048576) = false := decide_eq_false (by omega)
  go_enter Tryd.func4, Tryd.ntmps4
  go_wp2_with (go_at_call 9; refine (bytes4_any _ _ _ hs).mono ?_; rintro e w' ⟨rfl, rfl⟩)
  go_ret
  exact ⟨rfl, rfl⟩

set_option maxRecDepth 100000 in
theorem refuses_out (s : ByteArray) (i : Int) (w : World) (hs : s.size ≤ 1048576) (h : i < 0 ∨ (s.size : Int) ≤ i) :
    Calls Tryd.prog 4 #[.string s, .int .i64 i] w fun e w' => e = .returned (.bool true) ∧ w' = w := by
  have hd : decide (s.size ≤ 1048576) = true := decide_eq_true hs
  have hs' : (s.size : Int) ≤ 1048576 := by omega
  have hm : s.size ≤ maxLen := by unfold maxLen; omega
  rcases h with h | h
  · go_enter Tryd.func4, Tryd.ntmps4
    go_wp2_with (go_at_call 9; refine (bytes4_any _ _ _ hm).mono ?_; rintro e w' ⟨rfl, rfl⟩)
    go_ret
    exact ⟨rfl, rfl⟩
  · have h0 : 0 ≤ i := by omega
    go_enter Tryd.func4, Tryd.ntmps4
    go_wp2_with (go_at_call 9; refine (bytes4_any _ _ _ hm).mono ?_; rintro e w' ⟨rfl, rfl⟩)
    go_ret
    exact ⟨rfl, rfl⟩

set_option maxRecDepth 100000 in
set_option maxHeartbeats 1000000 in
theorem refuses_in (s : ByteArray) (i : Nat) (w : World) (hs : s.size ≤ 1048576) (hi : i < s.size) (hT : TabOk w) :
    Calls Tryd.prog 4 #[.string s, .int .i64 i] w fun e w' => e = .returned (.bool true) ∧ Below w.heap.size w w' := by
  have hd : decide (s.size ≤ 1048576) = true := decide_eq_true hs
  have hs' : (s.size : Int) ≤ 1048576 := by omega
  have hm : s.size ≤ maxLen := by unfold maxLen; omega
  have HT : Hid (TabOk w) := hT
  clear hT
  go_enter Tryd.func4, Tryd.ntmps4
  go_wp2_with fail
  refine (bytes4_any _ _ _ hm).mono ?_
  rintro e w' ⟨rfl, rfl⟩
  go_wp2_with fail
  refine (hexOf_ex s _ hs).mono ?_
  rintro e w1 ⟨r, rfl, hr, hb1⟩
  have T1 : Hid (TabOk w1) := HT.out.below hb1 HT.out.pos
  have HB1 : Hid (Below w'.heap.size w' w1) := hb1
  clear hb1
  go_wp2_with fail
  obtain ⟨A, hA⟩ : ∃ A, hashL s.data.toList = A := ⟨_, rfl⟩
  refine (isHash_eq s A _ (by omega) T1.out hA).mono ?_
  have HA : Hid (hashL s.data.toList = A) := hA
  clear hA
  rintro e w2 ⟨rfl, rfl⟩
  go_wp2_with fail
  refine (upper_ex s i _ hi hs).mono ?_
  rintro e w3 ⟨u, rfl, hu, hb3⟩
  have T3 : Hid (TabOk w3) := T1.out.below hb3 T1.out.pos
  have HB3 : Hid (Below w'.heap.size w' w3) := HB1.out.trans (hb3.mono HB1.out.size)
  clear hb3 T1 HB1
  have lu : u.size = s.size := by rw [size_of hu.out]; unfold upL; rw [List.length_set, size_list]
  have lr : r.size = s.size := by rw [size_of hr.out]; rw [List.length_map, size_list]
  have bu : u.size ≤ 1048576 := by omega
  have br : r.size ≤ 1048576 := by omega
  have ir : i < r.size := by omega
  clear lu lr
  go_wp2_with fail
  obtain ⟨B, hB⟩ : ∃ B, hashL u.data.toList = B := ⟨_, rfl⟩
  refine (isHash_eq u B _ (by omega) T3.out hB).mono ?_
  have HB : Hid (B = (A && !lowC (s.data.toList.getD i 0))) := by
    show B = _
    rw [← hB, hu.out, hash_up _ _ (by rw [size_list]; exact hi), HA.out]
  clear hB hu
  rintro e w4 ⟨rfl, rfl⟩
  go_wp2_with fail
  refine (upper_ex r i _ ir br).mono ?_
  rintro e w5 ⟨v, rfl, hv, hb5⟩
  have T5 : Hid (TabOk w5) := T3.out.below hb5 T3.out.pos
  have HB5 : Hid (Below w'.heap.size w' w5) := HB3.out.trans (hb5.mono HB3.out.size)
  clear hb5 T3 HB3
  have lv : v.size = r.size := by rw [size_of hv.out]; unfold upL; rw [List.length_set, size_list]
  have bv : v.size ≤ 1048576 := by omega
  clear lv
  go_wp2_with fail
  obtain ⟨C, hC⟩ : ∃ C, hashL v.data.toList = C := ⟨_, rfl⟩
  refine (isHash_eq v C _ (by omega) T5.out hC).mono ?_
  have HC : Hid (C = (decide (s.size = 64) && decide (r[i].toNat ≤ 57))) := by
    show C = _
    rw [← hC, hv.out, at_of r i ir, hr.out, hash_up_map _ _ (by rw [size_list]; exact hi), size_list]
  clear hC hv hr
  rintro e w6 ⟨rfl, rfl⟩
  have sl : s.data.toList.getD i 0 = s[i] := getD_at s i hi
  rw [sl] at HB
  clear sl
  unfold lowC at HB
  clear HA
  obtain ⟨h1, h2⟩ := refuse_cases s.size s[i].toNat r[i].toNat A B C HB.out HC.out
  clear HB HC
  rcases h1 with ⟨c64, ⟨c57, rfl⟩ | ⟨c57, rfl⟩⟩ | ⟨c64, rfl⟩
  all_goals
    cases A
    all_goals
      rcases h2 with ⟨l1, rfl⟩ | ⟨l1, l2, rfl⟩ | ⟨l1, l2, rfl⟩
      all_goals
        go_wp2
        go_ret
        refine ⟨ret_bool ?_, HB5.out⟩
        first
          | rfl
          | (simp; omega)
end Go.Proofs.Qxb6615156aDoor
