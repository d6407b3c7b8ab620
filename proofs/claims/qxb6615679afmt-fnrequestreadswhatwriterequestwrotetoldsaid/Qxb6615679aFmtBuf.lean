/-
  (*bytes.Buffer).grow and Write once more, over this program, with the frame told block by block: no old block but the buffer's own struct turns in grow; a new row is laid. (After the shelf's texts on bytes.Buffer, turned to this program.)
-/
import Derived.Test.Qxb6615679aFmtRows
import Derived.Test.Qxb6615679aFmtShelf
import Derived.WalkKit
import Derived.WalkSpells
import Derived.RegionTactic
import Derived.Deep.RegionWith
import Derived.Deep.Draws
import Derived.Deep.OwnRows
import Derived.Lib.BufferOwn
import Derived.Lib.BufferWrite
import Derived.Lib.BufferSrc
import Derived.Lib.Hide
import Derived.Lib.Walk
import Derived.Laws.IdiomCopy
import Derived.BigCall
import Derived.BigGuard
namespace Go.Proofs.Qxb6615679aFmt
open Go.RowKit

theorem info5 : (Tryf.prog.info? 5).map (fun i => (i.zero, i.size, i.bytes)) = some (some (Value.int IntKind.u8 0), 1, 1) := by kernel_rfl

/-- what grow leaves: the struct points to a new row, number 'w.heap.size', which begins with the old bytes -/
def Grew (b l n : Nat) (bs : List Value) (w w' : World) : Prop :=
  ∃ cap2 cells lr, w'.heap[b]? = some (.cells #[.slice (some ⟨w.heap.size, 0, none⟩) (l + n) cap2, .int .i64 0, .int .i8 lr] 65 (0, 0)) ∧ w'.heap[w.heap.size]? = some (.cells cells 5 (0, 0)) ∧
    cells.size = cap2 ∧ cells.toList.take l = bs ∧ l + n ≤ cap2 ∧ cap2 ≤ maxLen ∧ w.grownBy w' (some b)

theorem heap_set3 {W : World} {b : Nat} {v0 : Value} {lr : Int} (h : W.heap[b]? = some (.cells #[v0, .int .i64 0, .int .i8 lr] 65 (0, 0))) (v1 v2 : Value) :
    (((W.setCell ⟨b, 0, none⟩ v1).setCell ⟨b, 1, none⟩ (.int .i64 0)).setCell ⟨b, 0, none⟩ v2).heap[b]? = some (.cells #[v2, .int .i64 0, .int .i8 lr] 65 (0, 0)) := by
  rw [Lib.heap_setCell_same (Lib.heap_setCell_same (Lib.heap_setCell_same h v1) _) v2]
  rfl

set_option maxHeartbeats 4000000 in
set_option maxRecDepth 100000 in
theorem grow_small (b n : Nat) (lr : Int) (w : World) (hbk : w.heap[b]? = some (.cells #[.slice none 0 0, .int .i64 0, .int .i8 lr] 65 (0, 0))) (hn : 1 ≤ n) (h64 : n ≤ 64) :
    Calls Tryf.prog 87 #[.pointer (some ⟨b, 0, none⟩), .int .i64 n] w fun e w' => e = .returned (.int .i64 0) ∧ Grew b 0 n [] w w' := by
  obtain ⟨i0, hi, hz0, hz1, hz2⟩ := info_parts info5
  obtain ⟨M, hM⟩ : ∃ M, M = madeCells (Value.int .u8 0).cells ((64 : Int).toNat * i0.size) := ⟨_, rfl⟩
  have hMs : M.size = 64 := by rw [hM, size_madeCells, hz1]; rfl
  have hmk : ∀ W : World, (Instr.makeSlice 25 (.int .i64 (n : Int)) (.int .i64 64)).run Tryf.prog W = .ok (.slice (some ⟨W.heap.size, 0, none⟩) n 64) (W.alloc (.cells M 5)) := fun W => by
    have h := run_makeSlice (P := Tryf.prog) W 25 5 i0 (.int .u8 0) Tryf.underlying25 hi hz0 .i64 .i64 (n : Int) 64 (by omega) (by omega) (by rw [hz1]; decide) (by rw [hz2]; decide) (by decide)
    rw [← hM] at h
    simpa using h
  clear hM hi
  have hIs : Lib.IsBuffer 65 5 b b [] w := ⟨Nat.le_refl _, _, _, hbk, World.ownsRow_nil _ _ _ _, by simp [Value.ownBlock]⟩
  have hnil : ∀ W, (binOp .eql 25 (.slice none 0 0) (.slice none 0 0)).run Tryf.prog W = .ok (.bool true) W := fun W => Lib.run_eql_slice_nil_nil W _ _ Tryf.underlying25
  go_enter Tryf.func87, Tryf.ntmps87
  go_wp2_with (go_at_call 88; refine (Tryf.Buffer_Len b b [] _ hIs).mono ?_)
  rintro e W0 ⟨rfl, k, hW0⟩
  have hbk0 : W0.heap[b]? = some (.cells #[.slice none 0 0, .int .i64 0, .int .i8 lr] 65 (0, 0)) := by rw [hW0]; exact hbk
  have c0 : W0.cell? ⟨b, 0, none⟩ = some (.slice none 0 0) := by rw [Lib.cell_of_heap hbk0]; rfl
  have c1 : W0.cell? ⟨b, 1, none⟩ = some (.int .i64 0) := by rw [Lib.cell_of_heap hbk0]; rfl
  have f0 : W0.frozen? ⟨b, 0, none⟩ = false := Lib.frozen_of_heap hbk0 0
  have f1 : W0.frozen? ⟨b, 1, none⟩ = false := Lib.frozen_of_heap hbk0 1
  have hbW0 := Lib.lt_of_heap hbk0
  have c0a : ∀ o, (W0.alloc o).cell? ⟨b, 0, none⟩ = some (.slice none 0 0) := fun o => (World.cell?_of_block (a := ⟨b, 0, none⟩) (Below.heap_alloc W0 o b hbW0)).trans c0
  have f0a : ∀ o, (W0.alloc o).frozen? ⟨b, 0, none⟩ = false := fun o => (World.frozen?_of_block (a := ⟨b, 0, none⟩) (Below.heap_alloc W0 o b hbW0)).trans f0
  have HW0 := Lib.hid hW0
  have HB0 := Lib.hid hbk0
  have HM := Lib.hid hMs
  clear hW0 hIs hbk0 hMs
  go_wp2_with (go_at_call 86; refine (Tryf.Buffer_tryGrow_none b _ 0 0 n _ c0 (Nat.le_refl _) (Nat.zero_le _) (by omega)).mono ?_; rintro e w' ⟨rfl, rfl⟩)
  go_ret
  have hsz0 : w'.heap.size = w.heap.size := by rw [HW0.out]; rfl
  have hg0 : w.grownBy w' (some b) := by rw [HW0.out]; exact ⟨rfl, rfl, rfl, Nat.le_refl _, fun _ _ _ => rfl⟩
  refine ⟨rfl, 64, M, lr, ?_, ?_, HM.out, rfl, by omega, by unfold maxLen; omega, Lib.grownBy_allocR (Lib.grownBy_setB hg0 0 _) _⟩
  · rw [← hsz0, Below.heap_alloc _ _ _ (by rw [World.size_setCell]; exact hbW0), Lib.heap_setCell_same HB0.out]
    simp
  · rw [← hsz0]
    have h := heap_alloc_new (w'.setCell ⟨b, 0, none⟩ (.slice (some ⟨w'.heap.size, 0, none⟩) n 64)) (.cells M 5)
    rw [World.size_setCell] at h
    exact h

theorem grew_end {b l n cap2 : Nat} {lr : Int} {w w2 : World} {v0 : Value} {cells : Array Value} {bs : List Value}
    (hbk2 : w2.heap[b]? = some (.cells #[v0, .int .i64 0, .int .i8 lr] 65 (0, 0))) (hN : w2.heap[w.heap.size]? = some (.cells cells 5 (0, 0))) (hNb : w.heap.size ≠ b)
    (hcsz : cells.size = cap2) (htk : cells.toList.take l = bs) (hcap2 : l + n ≤ cap2) (hcm2 : cap2 ≤ maxLen) (hg2 : w.grownBy w2 (some b)) (v1 : Value) :
    Grew b l n bs w (((w2.setCell ⟨b, 0, none⟩ v1).setCell ⟨b, 1, none⟩ (.int .i64 0)).setCell ⟨b, 0, none⟩ (.slice (some ⟨w.heap.size, 0, none⟩) (l + n) cap2)) := by
  refine ⟨cap2, cells, lr, heap_set3 hbk2 _ _, ?_, hcsz, htk, hcap2, hcm2, Lib.grownBy_setB (Lib.grownBy_setB (Lib.grownBy_setB hg2 0 _) 1 _) 0 _⟩
  rw [Below.heap_setCell _ _ _ _ hNb, Below.heap_setCell _ _ _ _ hNb, Below.heap_setCell _ _ _ _ hNb]
  exact hN

set_option maxHeartbeats 8000000 in
set_option maxRecDepth 100000 in
theorem grow_big (b n : Nat) (lr : Int) (w : World) (hbk : w.heap[b]? = some (.cells #[.slice none 0 0, .int .i64 0, .int .i8 lr] 65 (0, 0))) (h64 : 64 < n) (hlim : n ≤ 140737488355328) :
    Calls Tryf.prog 87 #[.pointer (some ⟨b, 0, none⟩), .int .i64 n] w fun e w' => e = .returned (.int .i64 0) ∧ Grew b 0 n [] w w' := by
  have hn : 1 ≤ n := by omega
  have hIs : Lib.IsBuffer 65 5 b b [] w := ⟨Nat.le_refl _, _, _, hbk, World.ownsRow_nil _ _ _ _, by simp [Value.ownBlock]⟩
  have hnil : ∀ W, (binOp .eql 25 (.slice none 0 0) (.slice none 0 0)).run Tryf.prog W = .ok (.bool true) W := fun W => Lib.run_eql_slice_nil_nil W _ _ Tryf.underlying25
  go_enter Tryf.func87, Tryf.ntmps87
  go_wp2_with (go_at_call 88; refine (Tryf.Buffer_Len b b [] _ hIs).mono ?_)
  rintro e W0 ⟨rfl, k, hW0⟩
  have hbk0 : W0.heap[b]? = some (.cells #[.slice none 0 0, .int .i64 0, .int .i8 lr] 65 (0, 0)) := by rw [hW0]; exact hbk
  have c0 : W0.cell? ⟨b, 0, none⟩ = some (.slice none 0 0) := by rw [Lib.cell_of_heap hbk0]; rfl
  have c1 : W0.cell? ⟨b, 1, none⟩ = some (.int .i64 0) := by rw [Lib.cell_of_heap hbk0]; rfl
  have f0 : W0.frozen? ⟨b, 0, none⟩ = false := Lib.frozen_of_heap hbk0 0
  have f1 : W0.frozen? ⟨b, 1, none⟩ = false := Lib.frozen_of_heap hbk0 1
  have HW0 := Lib.hid hW0
  clear hW0 hIs
  go_wp2_with (go_at_call 86; refine (Tryf.Buffer_tryGrow_none b _ 0 0 n _ c0 (Nat.le_refl _) (Nat.zero_le _) (by omega)).mono ?_; rintro e w' ⟨rfl, rfl⟩)
  have hbW := Lib.lt_of_heap hbk0
  have hwn : IntKind.i64.wrap (n : Int) = n := by rw [IntKind.wrap_i64]; omega
  go_region_with (
      go_at_call 89
      refine (Tryf.bytes_growSlice_nil n _ hn hlim).mono ?_
      rintro e w2 ⟨cap2, cells, rfl, hN, hcsz, hcap2, hcm2, hbel⟩
      have hbk2 : w2.heap[b]? = some (.cells #[.slice none 0 0, .int .i64 0, .int .i8 lr] 65 (0, 0)) := (hbel.block b hbW).trans hbk0
      have d0 : w2.cell? ⟨b, 0, none⟩ = some (.slice none 0 0) := by rw [Lib.cell_of_heap hbk2]; rfl
      have d1 : w2.cell? ⟨b, 1, none⟩ = some (.int .i64 0) := by rw [Lib.cell_of_heap hbk2]; rfl
      have e0 : w2.frozen? ⟨b, 0, none⟩ = false := Lib.frozen_of_heap hbk2 0
      have e1 : w2.frozen? ⟨b, 1, none⟩ = false := Lib.frozen_of_heap hbk2 1)
  all_goals (
    go_wp2
    go_ret
    have hsz0 : w'.heap.size = w.heap.size := by rw [HW0.out]; rfl
    have hg2 : w.grownBy w2 (some b) := Lib.grownBy_below (w := w'.drew) (by rw [HW0.out]; exact ⟨rfl, rfl, rfl, Nat.le_refl _, fun _ _ _ => rfl⟩) hbel
    refine ⟨rfl, ?_⟩
    have hN' : w2.heap[w.heap.size]? = some (.cells cells 5 (0, 0)) := by rw [← hsz0]; exact hN
    have h := grew_end (l := 0) (n := n) (bs := []) (w := w) hbk2 hN' (by omega) hcsz (by simp) (by omega) hcm2 hg2 (.slice (some ⟨w.heap.size, 0, none⟩) 0 cap2)
    rw [Nat.zero_add, ← hsz0] at h
    exact h)

set_option maxHeartbeats 8000000 in
set_option maxRecDepth 100000 in
theorem grow_row (b g l cap n : Nat) (lr : Int) (cur : Array Value) (bs : List Value) (w : World)
    (hbk : w.heap[b]? = some (.cells #[.slice (some ⟨g, 0, none⟩) l cap, .int .i64 0, .int .i8 lr] 65 (0, 0)))
    (hl : bs.length = l) (hl0 : 0 < l) (hg : w.heap[g]? = some (.cells cur 5 (0, 0))) (hlc : l ≤ cap) (hcm : cap ≤ maxLen) (hcs : cur.size = cap) (htake : cur.toList.take l = bs) (hgb : b < g)
    (h1 : ∀ v ∈ bs, v.oneCell' = true) (hn : 1 ≤ n) (hroom : cap - l < n) (hlim : l + n ≤ 140737488355328) :
    Calls Tryf.prog 87 #[.pointer (some ⟨b, 0, none⟩), .int .i64 n] w fun e w' => e = .returned (.int .i64 l) ∧ Grew b l n bs w w' := by
  have hIs : Lib.IsBuffer 65 5 b b bs w := ⟨Nat.le_refl _, _, _, hbk, ⟨by rw [hl, Nat.mul_one], .inr ⟨g, cap, cur, by rw [hl], by omega, hg, by omega, hcm, by omega, by rw [hl, Nat.mul_one]; exact htake⟩⟩, by simp [Value.ownBlock]; omega⟩
  have hnil : ∀ W, (binOp .eql 25 (.slice (some ⟨g, 0, none⟩) l cap) (.slice none 0 0)).run Tryf.prog W = .ok (.bool false) W := fun W => Lib.run_eql_slice_some_nil W _ _ _ Tryf.underlying25
  have hl00 : ¬ l = 0 := by omega
  go_enter Tryf.func87, Tryf.ntmps87
  go_wp2_with (go_at_call 88; refine (Tryf.Buffer_Len b b bs _ hIs).mono ?_)
  rintro e W0 ⟨rfl, k, hW0⟩
  rw [hl]
  have hbk0 : W0.heap[b]? = some (.cells #[.slice (some ⟨g, 0, none⟩) l cap, .int .i64 0, .int .i8 lr] 65 (0, 0)) := by rw [hW0]; exact hbk
  have hg0 : W0.heap[g]? = some (.cells cur 5 (0, 0)) := by rw [hW0]; exact hg
  have c0 : W0.cell? ⟨b, 0, none⟩ = some (.slice (some ⟨g, 0, none⟩) l cap) := by rw [Lib.cell_of_heap hbk0]; rfl
  have c1 : W0.cell? ⟨b, 1, none⟩ = some (.int .i64 0) := by rw [Lib.cell_of_heap hbk0]; rfl
  have f0 : W0.frozen? ⟨b, 0, none⟩ = false := Lib.frozen_of_heap hbk0 0
  have f1 : W0.frozen? ⟨b, 1, none⟩ = false := Lib.frozen_of_heap hbk0 1
  have HW0 := Lib.hid hW0
  clear hW0 hIs
  have hcm' := hcm
  unfold maxLen at hcm'
  go_wp2_with (go_at_call 86; refine (Tryf.Buffer_tryGrow_none b _ l cap n _ c0 hlc hcm hroom).mono ?_; rintro e w' ⟨rfl, rfl⟩)
  have hc2 : cap ≤ 140737488355328 := by omega
  have h1' : ∀ v ∈ cur.toList.take l, v.oneCell' = true := by rw [htake]; exact h1
  have hbW := Lib.lt_of_heap hbk0
  have hwn : IntKind.i64.wrap (n : Int) = n := by rw [IntKind.wrap_i64]; omega
  go_region_with (
      go_at_call 89
      refine (Tryf.bytes_growSlice_row g l cap n cur _ ?_ hcs hlc hn hlim hc2 h1').mono ?_
      exact hg0
      rintro e w2 ⟨cap2, cells, rfl, hN, hcsz, htk, hcap2, hcm2, hbel⟩
      have hbk2 : w2.heap[b]? = some (.cells #[.slice (some ⟨g, 0, none⟩) l cap, .int .i64 0, .int .i8 lr] 65 (0, 0)) := (hbel.block b hbW).trans hbk0
      have d0 : w2.cell? ⟨b, 0, none⟩ = some (.slice (some ⟨g, 0, none⟩) l cap) := by rw [Lib.cell_of_heap hbk2]; rfl
      have d1 : w2.cell? ⟨b, 1, none⟩ = some (.int .i64 0) := by rw [Lib.cell_of_heap hbk2]; rfl
      have e0 : w2.frozen? ⟨b, 0, none⟩ = false := Lib.frozen_of_heap hbk2 0
      have e1 : w2.frozen? ⟨b, 1, none⟩ = false := Lib.frozen_of_heap hbk2 1)
  all_goals (
    go_wp2
    go_ret
    have hsz0 : w'.heap.size = w.heap.size := by rw [HW0.out]; rfl
    have hg2 : w.grownBy w2 (some b) := Lib.grownBy_below (w := w'.drew) (by rw [HW0.out]; exact ⟨rfl, rfl, rfl, Nat.le_refl _, fun _ _ _ => rfl⟩) hbel
    refine ⟨rfl, ?_⟩
    have hN' : w2.heap[w.heap.size]? = some (.cells cells 5 (0, 0)) := by rw [← hsz0]; exact hN
    have h := grew_end (l := l) (n := n) (bs := bs) (w := w) hbk2 hN' (by omega) hcsz (htk.trans htake) hcap2 hcm2 hg2 (.slice (some ⟨w.heap.size, 0, none⟩) l cap2)
    rw [← hsz0] at h
    exact h)
end Go.Proofs.Qxb6615679aFmt
