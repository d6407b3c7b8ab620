/-
  The plain laws: what IsHash answers on a text whose bytes were made hex, upper-cased at one place, or repeated; the sums over the 256 bytes. And the contracts once more, in the form in which the laws' walks meet them.
-/
import Derived.Test.Qxb6615156aDoorUpper
namespace Go.Proofs.Qxb6615156aDoor
open Go.ChangeShapes Go.WideShapes Go.ChangeAt Go.RowKit

/-- is it a lower-case letter? -/
def lowC (c : UInt8) : Bool := decide (97 ≤ c.toNat) && decide (c.toNat ≤ 122)

theorem byte_all {p : UInt8 → Bool} (h : ∀ i : Fin 256, p (UInt8.ofNat i.val) = true) (c : UInt8) : p c = true := by
  have := h ⟨c.toNat, c.toNat_lt⟩
  simpa using this

theorem hexC_hex (c : UInt8) : hexN (hexC c).toNat = true := byte_all (p := fun c => hexN (hexC c).toNat) (by decide +kernel) c
theorem upC_hex (c : UInt8) : hexN (upC c).toNat = (hexN c.toNat && !lowC c) := by
  have := byte_all (p := fun c => hexN (upC c).toNat == (hexN c.toNat && !lowC c)) (by decide +kernel) c
  simpa using this
theorem hexC_low (c : UInt8) : (!lowC (hexC c)) = decide ((hexC c).toNat ≤ 57) := by
  have := byte_all (p := fun c => (!lowC (hexC c)) == decide ((hexC c).toNat ≤ 57)) (by decide +kernel) c
  simpa using this

theorem hash_map (l : List UInt8) : hashL (l.map hexC) = decide (l.length = 64) := by
  unfold hashL
  rw [List.length_map, List.all_map]
  have : l.all ((fun c => hexN c.toNat) ∘ hexC) = true := by
    rw [List.all_eq_true]
    intro c _
    exact hexC_hex c
  rw [this, Bool.and_true]

theorem all_set_and (p : UInt8 → Bool) (q : Bool) : ∀ (l : List UInt8) (i : Nat) (c : UInt8), i < l.length → p c = (p (l.getD i 0) && q) → (l.set i c).all p = (l.all p && q)
  | [], i, c, h, _ => by simp at h
  | x :: l, 0, c, _, hp => by
    simp at hp
    rw [List.set_cons_zero, List.all_cons, List.all_cons, hp]
    cases p x <;> cases q <;> simp
  | x :: l, i + 1, c, h, hp => by
    have := all_set_and p q l i c (by simpa using h) (by simpa using hp)
    rw [List.set_cons_succ, List.all_cons, List.all_cons, this, Bool.and_assoc]

theorem hash_up (l : List UInt8) (i : Nat) (h : i < l.length) : hashL (upL l i) = (hashL l && !lowC (l.getD i 0)) := by
  unfold hashL upL
  rw [List.length_set, all_set_and (fun c => hexN c.toNat) (!lowC (l.getD i 0)) l i _ h (upC_hex _), Bool.and_assoc]

theorem getD_map (l : List UInt8) (i : Nat) (h : i < l.length) : (l.map hexC).getD i 0 = hexC (l.getD i 0) := by
  rw [List.getD_eq_getElem?_getD, List.getD_eq_getElem?_getD, List.getElem?_map, List.getElem?_eq_getElem h]
  rfl

theorem hash_up_map (l : List UInt8) (i : Nat) (h : i < l.length) : hashL (upL (l.map hexC) i) = (decide (l.length = 64) && decide (((l.map hexC).getD i 0).toNat ≤ 57)) := by
  rw [hash_up _ _ (by rw [List.length_map]; exact h), hash_map, getD_map l i h, hexC_low]

/-- the cut: each byte of the text is a hex digit exactly when those of its left part and those of its right part are -/
theorem hash_cut (a b : List UInt8) : hashL (a ++ b) = (hashL (a.map hexC ++ b) && hashL (a ++ b.map hexC)) := by
  have m : ∀ l : List UInt8, (l.map hexC).all (fun c => hexN c.toNat) = true := fun l => by
    rw [List.all_map, List.all_eq_true]
    intro c _
    exact hexC_hex c
  unfold hashL
  simp only [List.length_append, List.length_map, List.all_append, m, Bool.true_and, Bool.and_true]
  cases decide (a.length + b.length = 64) <;> cases a.all (fun c => hexN c.toNat) <;> cases b.all (fun c => hexN c.toNat) <;> rfl

theorem TabOk.below {w w' : World} (h : TabOk w) (hb : Below w.heap.size w w') (h0 : 0 < w.heap.size) : TabOk w' :=
  fun i hi => (hb.cell (p := ⟨0, i, none⟩) h0).trans (h i hi)
theorem TabOk.pos {w : World} (h : TabOk w) : 0 < w.heap.size := by
  have := h 0 (by omega)
  rcases Nat.lt_or_ge 0 w.heap.size with h' | h'
  · exact h'
  · simp [World.cell?, Array.getElem?_eq_none h'] at this

theorem hexOf_ex (s : ByteArray) (w : World) (hs : s.size ≤ 1048576) :
    Calls Tryd.prog 8 #[.string s] w fun e w' => ∃ r : ByteArray, e = .returned (.string r) ∧ Hid (r.data.toList = s.data.toList.map hexC) ∧ Below w.heap.size w w' := by
  refine (hexOf_any s w (by unfold maxLen; omega) (by omega)).mono ?_
  rintro e w' ⟨rfl, hb⟩
  exact ⟨_, rfl, rfl, hb⟩
theorem upper_ex (s : ByteArray) (i : Nat) (w : World) (hi : i < s.size) (hs : s.size ≤ 1048576) :
    Calls Tryd.prog 10 #[.string s, .int .i64 i] w fun e w' => ∃ r : ByteArray, e = .returned (.string r) ∧ Hid (r.data.toList = upL s.data.toList i) ∧ Below w.heap.size w w' := by
  refine (upper_any s i w hi (by unfold maxLen; omega)).mono ?_
  rintro e w' ⟨rfl, hb⟩
  exact ⟨_, rfl, rfl, hb⟩
theorem isHash_eq (s : ByteArray) (b : Bool) (w : World) (hs : s.size ≤ 2097152) (hT : TabOk w) (h : hashL s.data.toList = b) :
    Calls Tryd.prog 7 #[.string s] w fun e w' => e = .returned (.bool b) ∧ w' = w := by
  subst h
  exact isHash_any s w (by unfold maxLen; omega) hT
theorem size_of {r : ByteArray} {l : List UInt8} (h : r.data.toList = l) : r.size = l.length := by rw [← size_list, h]
theorem at_of (r : ByteArray) (i : Nat) (h : i < r.size) : r[i] = r.data.toList.getD i 0 := (getD_at r i h).symm
end Go.Proofs.Qxb6615156aDoor
