/-
  The walks of Less32 (with lessAhead inside it) and of rfc1982Less32, and the plain arithmetic of both.
-/
import Derived.Test.Qxb6617700aRows
import Derived.WalkKit
import Derived.ProofKit
import Derived.OpenShut
namespace Go.Proofs.Qxb6617700a
open Go.ChangeShapes Go.WideShapes Go.ChangeAt Go.RowKit

/-- what Less32 answers: the wrapped difference, read as a signed number, is positive -/
def lessB (a b : Int) : Bool := decide (0 < wrap32 ((b - a) % 4294967296))
/-- what rfc1982Less32 answers -/
def rfcB (a b : Int) : Bool :=
  if a < b then decide ((b - a) % 4294967296 < 2147483648) else if b < a then decide (2147483648 < (a - b) % 4294967296) else false

theorem lessB_iff (a b : Int) : lessB a b = decide (0 < (b - a) % 4294967296 ∧ (b - a) % 4294967296 < 2147483648) := by
  unfold lessB wrap32
  congr 1
  apply propext
  omega

theorem rfc_is_less (a b : Int) (ha : 0 ≤ a) (ha' : a < 4294967296) (hb : 0 ≤ b) (hb' : b < 4294967296) : rfcB a b = lessB a b := by
  rw [lessB_iff]
  unfold rfcB
  by_cases h : a < b
  · rw [if_pos h]; congr 1; apply propext; omega
  · rw [if_neg h]
    by_cases h2 : b < a
    · rw [if_pos h2]; congr 1; apply propext; omega
    · rw [if_neg h2]; symm; apply decide_eq_false; omega

theorem less_shift (a b k : Int) : lessB ((a + k) % 4294967296) ((b + k) % 4294967296) = lessB a b := by
  rw [lessB_iff, lessB_iff]
  have e : ((b + k) % 4294967296 - (a + k) % 4294967296) % 4294967296 = (b - a) % 4294967296 := by omega
  rw [e]

theorem less_any (a b : Int) (w : World) :
    Calls Try.prog 5 #[.int .u32 a, .int .u32 b] w fun e w' => e = .returned (.bool (lessB a b)) ∧ w' = w := by
  go_enter Try.func5, Try.ntmps5
  go_wp2
  go_ret
  exact ⟨rfl, rfl⟩

theorem rfc_any (a b : Int) (w : World) :
    Calls Try.prog 6 #[.int .u32 a, .int .u32 b] w fun e w' => e = .returned (.bool (rfcB a b)) ∧ w' = w := by
  by_cases h : a < b
  · have hr : Hid (rfcB a b = decide ((b - a) % 4294967296 < 2147483648)) := by unfold rfcB; exact if_pos h
    go_enter Try.func6, Try.ntmps6
    go_wp2
    go_ret
    exact ⟨by rw [hr.out]; rfl, rfl⟩
  · by_cases h2 : b < a
    · have hr : Hid (rfcB a b = decide (2147483648 < (a - b) % 4294967296)) := by unfold rfcB; exact (if_neg h).trans (if_pos h2)
      go_enter Try.func6, Try.ntmps6
      go_wp2
      go_ret
      exact ⟨by rw [hr.out]; rfl, rfl⟩
    · have hr : Hid (rfcB a b = false) := by unfold rfcB; exact (if_neg h).trans (if_neg h2)
      go_enter Try.func6, Try.ntmps6
      go_wp2
      go_ret
      exact ⟨by rw [hr.out]; rfl, rfl⟩
end Go.Proofs.Qxb6617700a
