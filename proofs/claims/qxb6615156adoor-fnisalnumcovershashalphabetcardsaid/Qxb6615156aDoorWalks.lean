/-
  The walks of the small functions: IsHash (with isHexDigits inside it), ZZisAlnum, hexDigit, the two bounds on lengths. The table 'lowerHex' is a hypothesis on its cells ('TabOk').
-/
import Derived.Test.Qxb6615156aDoorRows
import Derived.WalkKit
import Derived.ProofKit
import Derived.OpenShut
import Derived.WalkSpells
namespace Go.Proofs.Qxb6615156aDoor
open Go.ChangeShapes Go.WideShapes Go.ChangeAt Go.RowKit

/-- the lower-case hex digits, by their numbers -/
def hexN (i : Nat) : Bool := (decide (48 ≤ i) && decide (i ≤ 57)) || (decide (97 ≤ i) && decide (i ≤ 102))
/-- the table 'lowerHex' lies in block 0 and holds just the lower-case hex digits -/
def TabOk (w : World) : Prop := ∀ i : Nat, i < 256 → w.cell? ⟨0, i, none⟩ = some (.bool (hexN i))
/-- what IsHash answers -/
def hashL (l : List UInt8) : Bool := decide (l.length = 64) && l.all (fun c => hexN c.toNat)
/-- what isAlnum answers -/
def alnB (c : Int) : Bool := (decide (48 ≤ c) && decide (c ≤ 57)) || (decide (97 ≤ c) && decide (c ≤ 122)) || (decide (65 ≤ c) && decide (c ≤ 90))

theorem ret_bool {a b : Bool} (h : a = b) : Ending.returned (.bool a) = .returned (.bool b) := by rw [h]
theorem ret_int {k : IntKind} {a b : Int} (h : a = b) : Ending.returned (.int k a) = .returned (.int k b) := by rw [h]
theorem take_snoc (s : ByteArray) (k : Nat) (h : k < s.size) : s.data.toList.take (k + 1) = s.data.toList.take k ++ [s[k]] := by
  rw [List.take_succ_eq_append_getElem (by simpa using h)]; rfl
theorem size_list (s : ByteArray) : s.data.toList.length = s.size := by rw [Array.length_toList]; rfl
theorem all_false_of (s : ByteArray) (k : Nat) (h : k < s.size) (hk : hexN s[k].toNat = false) : s.data.toList.all (fun c => hexN c.toNat) = false := by
  rw [List.all_eq_false]
  exact ⟨s[k], by rw [Array.mem_toList_iff]; exact Array.getElem_mem h, by simp [hk]⟩

set_option maxRecDepth 100000 in
theorem isHash_any (s : ByteArray) (w : World) (hs : s.size ≤ maxLen) (hT : TabOk w) :
    Calls Tryd.prog 7 #[.string s] w fun e w' => e = .returned (.bool (hashL s.data.toList)) ∧ w' = w := by
  unfold maxLen at hs
  have HT : Hid (TabOk w) := hT
  clear hT
  by_cases h64 : s.size = 64
  · have H64 : Hid (s.size = 64) := h64
    have hne : ((s.size : Int) != 64) = false := by rw [h64]; rfl
    clear h64
    go_enter Tryd.func7, Tryd.ntmps7
    go_wp2
    go_loop [13] (fun i => ∃ k : Nat, k ≤ s.size ∧ i = .int .i64 k ∧ (s.data.toList.take k).all (fun c => hexN c.toNat) = true) (fun i => s.size - (intOf i).toNat)
    case atStart => exact ⟨0, Nat.zero_le _, rfl, rfl⟩
    case round =>
      obtain ⟨k, hk, rfl, hall⟩ := hrel
      have Hall : Hid _ := hall
      clear hall
      by_cases hlt : k < s.size
      · have hc := HT.out s[k].toNat s[k].toNat_lt
        have hb : (s[k].toNat : Int) < 256 := by have := s[k].toNat_lt; omega
        cases hx : hexN s[k].toNat
        · go_wp2
          go_ret
          exact ⟨ret_bool (by unfold hashL; rw [all_false_of s k hlt hx]; simp), rfl⟩
        · have HS : Hid ((s.data.toList.take (k + 1)).all (fun c => hexN c.toNat) = true) := by
            show _ = true
            rw [take_snoc s k hlt, List.all_append, Hall.out]
            simp [hx]
          go_wp2
          go_round
          case rel => exact ⟨k + 1, by omega, by go_num, HS.out⟩
          case measure => simp [intOf]; omega
      · have HS : Hid (hashL s.data.toList = true) := by
          show _ = true
          have e : s.data.toList.take k = s.data.toList := List.take_of_length_le (by rw [size_list]; omega)
          have h := Hall.out
          rw [e] at h
          unfold hashL
          rw [h, size_list, H64.out]
          rfl
        go_wp2
        go_ret
        exact ⟨ret_bool (by rw [HS.out]), rfl⟩
  · have hne : ((s.size : Int) != 64) = true := by rw [bne_iff_ne]; omega
    have HS : Hid (hashL s.data.toList = false) := by
      show _ = false
      unfold hashL
      rw [size_list, decide_eq_false h64]
      rfl
    clear h64
    go_enter Tryd.func7, Tryd.ntmps7
    go_wp2
    go_ret
    exact ⟨ret_bool (by rw [HS.out]), rfl⟩

theorem alnum_any (c : Int) (w : World) :
    Calls Tryd.prog 11 #[.int .u8 c] w fun e w' => e = .returned (.bool (alnB c)) ∧ w' = w := by
  go_enter Tryd.func11, Tryd.ntmps11
  go_wp2
  all_goals go_ret
  all_goals refine ⟨ret_bool ?_, rfl⟩
  all_goals
    unfold alnB
    rw [Bool.eq_iff_iff]
    simp only [Bool.or_eq_true, Bool.and_eq_true, decide_eq_true_eq, true_iff, Bool.false_eq_true, false_iff]
    omega

/-- what hexDigit answers below 16 -/
def hexD (v : Int) : Int := if v < 10 then 48 + v else 97 + (v - 10)
theorem hexDigit_any (v : Int) (w : World) (h0 : 0 ≤ v) (h1 : v < 16) :
    Calls Tryd.prog 14 #[.int .u8 v] w fun e w' => e = .returned (.int .u8 (hexD v)) ∧ w' = w := by
  by_cases h : v < 10
  · have HS : Hid (hexD v = 48 + v) := by unfold hexD; exact if_pos h
    go_enter Tryd.func14, Tryd.ntmps14
    go_wp2
    go_ret
    exact ⟨ret_int (by rw [HS.out]), rfl⟩
  · have HS : Hid (hexD v = 97 + (v - 10)) := by unfold hexD; exact if_neg h
    go_enter Tryd.func14, Tryd.ntmps14
    go_wp2
    go_ret
    exact ⟨ret_int (by rw [HS.out]), rfl⟩

theorem bytes3_any (s : ByteArray) (k : Int) (w : World) (hs : s.size ≤ maxLen) :
    Calls Tryd.prog 6 #[.string s, .int .i64 k] w fun e w' => e = .returned (.bool (decide (s.size ≤ 1048576))) ∧ w' = w := by
  unfold maxLen at hs
  by_cases h : s.size ≤ 1048576
  · have h' : (s.size : Int) ≤ 1048576 := by omega
    have HS : Hid (decide (s.size ≤ 1048576) = true) := decide_eq_true h
    clear h
    go_enter Tryd.func6, Tryd.ntmps6
    go_wp2
    go_ret
    exact ⟨ret_bool (by rw [HS.out]), rfl⟩
  · have h' : 1048576 < (s.size : Int) := by omega
    have HS : Hid (decide (s.size ≤ 1048576) = false) := decide_eq_false h
    clear h
    go_enter Tryd.func6, Tryd.ntmps6
    go_wp2
    go_ret
    exact ⟨ret_bool (by rw [HS.out]), rfl⟩

theorem bytes4_any (s : ByteArray) (k : Int) (w : World) (hs : s.size ≤ maxLen) :
    Calls Tryd.prog 9 #[.string s, .int .i64 k] w fun e w' => e = .returned (.bool (decide (s.size ≤ 1048576))) ∧ w' = w := by
  unfold maxLen at hs
  by_cases h : s.size ≤ 1048576
  · have h' : (s.size : Int) ≤ 1048576 := by omega
    have HS : Hid (decide (s.size ≤ 1048576) = true) := decide_eq_true h
    clear h
    go_enter Tryd.func9, Tryd.ntmps9
    go_wp2
    go_ret
    exact ⟨ret_bool (by rw [HS.out]), rfl⟩
  · have h' : 1048576 < (s.size : Int) := by omega
    have HS : Hid (decide (s.size ≤ 1048576) = false) := decide_eq_false h
    clear h
    go_enter Tryd.func9, Tryd.ntmps9
    go_wp2
    go_ret
    exact ⟨ret_bool (by rw [HS.out]), rfl⟩
end Go.Proofs.Qxb6615156aDoor
