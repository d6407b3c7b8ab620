/-
  The walks of ZZisAlnum (with isAlnum and isDigit inside it) and of the law's body, and the plain facts on the 256 bytes.
-/
import Derived.Test.Qxb6615156aRows
import Derived.WalkKit
import Derived.ProofKit
import Derived.OpenShut
namespace Go.Proofs.Qxb6615156a
open Go.ChangeShapes Go.WideShapes Go.ChangeAt Go.RowKit

/-- what isAlnum answers -/
def alnB (c : Int) : Bool := (decide (48 ≤ c) && decide (c ≤ 57)) || (decide (97 ≤ c) && decide (c ≤ 122)) || (decide (65 ≤ c) && decide (c ≤ 90))

theorem ret_bool {a b : Bool} (h : a = b) : Ending.returned (.bool a) = .returned (.bool b) := by rw [h]

theorem alnum_any (c : Int) (w : World) :
    Calls Try.prog 4 #[.int .u8 c] w fun e w' => e = .returned (.bool (alnB c)) ∧ w' = w := by
  go_enter Try.func4, Try.ntmps4
  go_wp2
  all_goals go_ret
  all_goals refine ⟨ret_bool ?_, rfl⟩
  all_goals
    unfold alnB
    rw [Bool.eq_iff_iff]
    simp only [Bool.or_eq_true, Bool.and_eq_true, decide_eq_true_eq, true_iff, Bool.false_eq_true, false_iff]
    omega

/-- the five kinds of a byte c, f = c ^ 0x20, low = c | 0x20 -/
def kind (c f low : Int) : Bool :=
  (decide (48 ≤ c ∧ c ≤ 57) && decide (f < 48) && decide (low < 97) && alnB c && !alnB f) ||
  (decide (c < 48) && decide (48 ≤ f ∧ f ≤ 57) && decide (low < 97) && !alnB c && alnB f) ||
  (decide (57 < c) && decide (57 < f) && decide (97 ≤ low ∧ low ≤ 122) && alnB c && alnB f) ||
  (decide (c < 48 ∨ 57 < c) && decide (f < 48 ∨ 57 < f) && decide (low < 97 ∨ 122 < low) && !alnB c && !alnB f)

theorem kinds_fin : ∀ c : Fin 256, kind (c.val : Int) (bits .xor .u8 (c.val : Int) 32) (bits .or .u8 (c.val : Int) 32) = true := by
  decide +kernel

theorem kinds (c : Int) (h0 : 0 ≤ c) (h1 : c ≤ 255) : kind c (bits .xor .u8 c 32) (bits .or .u8 c 32) = true := by
  have h := kinds_fin ⟨c.toNat, by omega⟩
  have e : ((c.toNat : Nat) : Int) = c := by omega
  simp only [e] at h
  exact h

theorem body (c f low : Int) (hx : bits .xor .u8 c 32 = f) (ho : bits .or .u8 c 32 = low) (hk : kind c f low = true) (w : World) :
    Calls Try.prog 3 #[.int .u8 c] w fun e w' => e = .returned (.bool true) ∧ w' = w := by
  unfold kind at hk
  simp only [Bool.or_eq_true, Bool.and_eq_true, decide_eq_true_eq, Bool.not_eq_true'] at hk
  rcases hk with ((⟨⟨⟨⟨⟨c1, c2⟩, f1⟩, l1⟩, a1⟩, b1⟩ | ⟨⟨⟨⟨c1, f1, f2⟩, l1⟩, a1⟩, b1⟩) | ⟨⟨⟨⟨c1, f1⟩, l1, l2⟩, a1⟩, b1⟩) | ⟨⟨⟨⟨c1, f1⟩, l1⟩, a1⟩, b1⟩
  · go_enter Try.func3, Try.ntmps3
    go_wp2_with (go_at_call 4; refine (alnum_any _ _).mono ?_; rintro e w' ⟨rfl, rfl⟩)
    go_ret
    exact ⟨rfl, rfl⟩
  · go_enter Try.func3, Try.ntmps3
    go_wp2_with (go_at_call 4; refine (alnum_any _ _).mono ?_; rintro e w' ⟨rfl, rfl⟩)
    go_ret
    exact ⟨rfl, rfl⟩
  · go_enter Try.func3, Try.ntmps3
    go_wp2_with (go_at_call 4; refine (alnum_any _ _).mono ?_; rintro e w' ⟨rfl, rfl⟩)
    go_ret
    exact ⟨rfl, rfl⟩
  · rcases c1 with c1 | c1
    all_goals
      rcases f1 with f1 | f1
      all_goals
        rcases l1 with l1 | l1
        all_goals
          go_enter Try.func3, Try.ntmps3
          go_wp2_with (go_at_call 4; refine (alnum_any _ _).mono ?_; rintro e w' ⟨rfl, rfl⟩)
          go_ret
          exact ⟨rfl, rfl⟩
end Go.Proofs.Qxb6615156a
