/-
  The walk of FnIsAlnumCoversHashAlphabet: 256 rounds, each with a call of ZZisAlnum, rep64 and IsHash.
-/
import Derived.Test.Qxb6615156aDoorPlain
namespace Go.Proofs.Qxb6615156aDoor
open Go.ChangeShapes Go.WideShapes Go.ChangeAt Go.RowKit

theorem hash_rep (c : UInt8) : hashL (List.replicate 64 c) = hexN c.toNat := by
  unfold hashL
  rw [List.length_replicate, List.all_replicate]
  simp

theorem rep64_ex (c : Int) (w : World) :
    Calls Tryd.prog 12 #[.int .u8 c] w fun e w' => ∃ r : ByteArray, e = .returned (.string r) ∧ Hid (r.data.toList = List.replicate 64 (UInt8.ofNat c.toNat)) ∧ Below w.heap.size w w' := by
  refine (rep64_any c w).mono ?_
  rintro e w' ⟨rfl, hb⟩
  exact ⟨_, rfl, rfl, hb⟩

/-- what the loop has gathered behind k rounds: how many are accepted, in how many runs, how many make a hash, was the last one accepted -/
def cnt : Nat → Nat
  | 0 => 0
  | k + 1 => if alnB (k : Int) then cnt k + 1 else cnt k
def prv : Nat → Bool
  | 0 => false
  | k + 1 => alnB (k : Int)
def run : Nat → Nat
  | 0 => 0
  | k + 1 => if alnB (k : Int) && !prv k then run k + 1 else run k
def hsh : Nat → Nat
  | 0 => 0
  | k + 1 => if hexN k then hsh k + 1 else hsh k
theorem cnt_le : ∀ k, cnt k ≤ k
  | 0 => Nat.le_refl _
  | k + 1 => by have := cnt_le k; unfold cnt; split <;> omega
theorem run_le : ∀ k, run k ≤ k
  | 0 => Nat.le_refl _
  | k + 1 => by have := run_le k; unfold run; split <;> omega
theorem hsh_le : ∀ k, hsh k ≤ k
  | 0 => Nat.le_refl _
  | k + 1 => by have := hsh_le k; unfold hsh; split <;> omega
theorem cnt_all : cnt 256 = 62 := by decide +kernel
theorem run_all : run 256 = 3 := by decide +kernel
theorem hsh_all : hsh 256 = 16 := by decide +kernel
theorem hex_aln (k : Nat) (h : hexN k = true) : alnB (k : Int) = true := by
  unfold hexN at h
  unfold alnB
  simp only [Bool.or_eq_true, Bool.and_eq_true, decide_eq_true_eq] at h ⊢
  omega
theorem byte_of (k : Nat) (h : k < 256) : (UInt8.ofNat ((k : Int)).toNat).toNat = k := by
  rw [Int.toNat_natCast, UInt8.toNat_ofNat']
  omega

set_option maxRecDepth 100000 in
set_option maxHeartbeats 1000000 in
theorem covers_any (w : World) (hT : TabOk w) :
    Calls Tryd.prog 5 #[] w fun e w' => e = .returned (.bool true) ∧ Below w.heap.size w w' := by
  have HT : Hid (TabOk w) := hT
  clear hT
  go_enter Tryd.func5, Tryd.ntmps5
  go_wp2
  go_loopw [1, 2, 3, 4, 5] (fun c r h p v wr => ∃ k : Nat, k ≤ 256 ∧ c = .int .i64 (cnt k) ∧ r = .int .i64 (run k) ∧ h = .int .i64 (hsh k) ∧ p = .bool (prv k) ∧ v = .int .i64 k ∧ Hid (Below w.heap.size w wr)) (fun _ _ _ _ v _ => 256 - (intOf v).toNat)
  case atStart => exact ⟨0, Nat.zero_le _, rfl, rfl, rfl, rfl, rfl, Below.refl _ _⟩
  case round =>
    obtain ⟨k, hk, rfl, rfl, rfl, rfl, rfl, hbel⟩ := hrel
    have lc := cnt_le k
    have lr := run_le k
    have lh := hsh_le k
    by_cases hlt : k < 256
    · go_wp2_with fail
      refine (alnum_any _ _).mono ?_
      rintro e w' ⟨rfl, rfl⟩
      cases hp : prv k
      all_goals
        cases ha : alnB (k : Int)
        all_goals
          go_wp2_with fail
          refine (rep64_ex _ _).mono ?_
          rintro e w1 ⟨r, rfl, hr, hb1⟩
          have HB1 : Hid (Below w.heap.size w w1) := hbel.out.trans (hb1.mono hbel.out.size)
          have T1 : Hid (TabOk w1) := HT.out.below HB1.out HT.out.pos
          clear hb1
          have hz : r.size ≤ 2097152 := by rw [size_of hr.out, List.length_replicate]; omega
          have hh : hashL r.data.toList = hexN k := by rw [hr.out, hash_rep, byte_of k hlt]
          go_wp2_with fail
          refine (isHash_eq r _ _ hz T1.out hh).mono ?_
          clear hh
          rintro e w2 ⟨rfl, rfl⟩
          cases hx : hexN k
          all_goals
            first
              | exact absurd (ha.symm.trans (hex_aln k hx)) Bool.false_ne_true
              | (have HC : Hid (cnt (k + 1) = if alnB (k : Int) then cnt k + 1 else cnt k) := rfl
                 have HR : Hid (run (k + 1) = if alnB (k : Int) && !prv k then run k + 1 else run k) := rfl
                 have HH : Hid (hsh (k + 1) = if hexN k then hsh k + 1 else hsh k) := rfl
                 have HP : Hid (prv (k + 1) = alnB (k : Int)) := rfl
                 rw [ha] at HC HP
                 rw [ha, hp] at HR
                 rw [hx] at HH
                 go_wp2
                 go_roundw
                 case rel => exact ⟨k + 1, by omega, by rw [HC.out]; go_num, by rw [HR.out]; go_num, by rw [HH.out]; go_num, by rw [HP.out], by go_num, HB1.out⟩
                 case measure => simp [intOf]; omega)
    · have hk6 : k = 256 := by omega
      subst hk6
      have c1 : ((cnt 256 : Nat) : Int) = 62 := by rw [cnt_all]; rfl
      have c2 : ((run 256 : Nat) : Int) = 3 := by rw [run_all]; rfl
      have c3 : ((hsh 256 : Nat) : Int) = 16 := by rw [hsh_all]; rfl
      rw [c1, c2, c3]
      clear c1 c2 c3 lc lr lh
      go_wp2
      go_ret
      exact ⟨rfl, hbel.out⟩
end Go.Proofs.Qxb6615156aDoor
