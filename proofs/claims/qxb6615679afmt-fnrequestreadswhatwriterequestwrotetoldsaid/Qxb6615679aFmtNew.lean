/-
  ZZnewWriter (with bufio.NewWriterSize inside it), AvailableBuffer, ZZflushed.
-/
import Derived.Test.Qxb6615679aFmtWriteAny
namespace Go.Proofs.Qxb6615679aFmt
open Go.RowKit

/-- the size that the writer gets -/
def sizeOfWriter (size : Int) : Nat := if size ≤ 0 then 4096 else size.toNat

/-- the world behind ZZnewWriter -/
def newWorld (N : Nat) (w : World) : World :=
  ((w.alloc (.cells #[.slice none 0 0, .int .i64 0, .int .i8 0] 65)).alloc (.cells (madeCells #[.int .u8 0] N) 5)).alloc (.cells #[.nilIface, .slice (some ⟨w.heap.size + 1, 0, none⟩) N N, .int .i64 0, .iface 43 (.pointer (some ⟨w.heap.size, 0, none⟩))] 91)

theorem assert42 (a : Addr) (w : World) : (Instr.typeAssert (.iface 43 (.pointer (some a))) 88 42 true).run Tryf.prog w = .ok (.tuple #[.pointer none, .bool false]) w := by kernel_rfl

set_option maxHeartbeats 1000000 in
set_option maxRecDepth 100000 in
theorem new_pos (N : Nat) (w : World) (h0 : 0 < N) (h1 : N ≤ 65536) :
    Calls Tryf.prog 15 #[.int .i64 N] w fun e w' => e = .returned (.tuple #[.pointer (some ⟨w.heap.size + 2, 0, none⟩), .pointer (some ⟨w.heap.size, 0, none⟩)]) ∧ w' = newWorld N w := by
  have hmk : ∀ w : World, (Instr.makeSlice 25 (.int .i64 (N : Int)) (.int .i64 (N : Int))).run Tryf.prog w = .ok (.slice (some ⟨w.heap.size, 0, none⟩) N N) (w.alloc (.cells (madeCells #[.int .u8 0] N) 5)) := fun w =>
    run_make_row' (P := Tryf.prog) 25 5 (.int .u8 0) 1 Tryf.underlying25 info5 rfl .i64 .i64 N (by omega) (by omega) w
  have h0' : 0 < (N : Int) := by omega
  have hta := assert42
  go_enter Tryf.func15, Tryf.ntmps15
  go_wp2
  go_ret2
  exact ⟨rfl, rfl⟩

set_option maxHeartbeats 1000000 in
set_option maxRecDepth 100000 in
theorem new_neg (s : Int) (w : World) (h0 : s ≤ 0) :
    Calls Tryf.prog 15 #[.int .i64 s] w fun e w' => e = .returned (.tuple #[.pointer (some ⟨w.heap.size + 2, 0, none⟩), .pointer (some ⟨w.heap.size, 0, none⟩)]) ∧ w' = newWorld 4096 w := by
  have hmk : ∀ w : World, (Instr.makeSlice 25 (.int .i64 4096) (.int .i64 4096)).run Tryf.prog w = .ok (.slice (some ⟨w.heap.size, 0, none⟩) 4096 4096) (w.alloc (.cells (madeCells #[.int .u8 0] 4096) 5)) := fun w =>
    run_make_row' (P := Tryf.prog) 25 5 (.int .u8 0) 1 Tryf.underlying25 info5 rfl .i64 .i64 4096 (by omega) (by omega) w
  have hta := assert42
  go_enter Tryf.func15, Tryf.ntmps15
  go_wp2
  go_ret2
  exact ⟨rfl, rfl⟩

theorem new_any (s : Int) (w : World) (h1 : s ≤ 65536) :
    Calls Tryf.prog 15 #[.int .i64 s] w fun e w' => e = .returned (.tuple #[.pointer (some ⟨w.heap.size + 2, 0, none⟩), .pointer (some ⟨w.heap.size, 0, none⟩)]) ∧ w' = newWorld (sizeOfWriter s) w := by
  unfold sizeOfWriter
  by_cases h : s ≤ 0
  · rw [if_pos h]
    exact new_neg s w h
  · rw [if_neg h]
    obtain ⟨n, rfl⟩ := Int.eq_ofNat_of_zero_le (show 0 ≤ s by omega)
    exact new_pos n w (by omega) (by omega)

theorem size_bounds (s : Int) (h1 : s ≤ 65536) : 0 < sizeOfWriter s ∧ sizeOfWriter s ≤ 65536 := by
  unfold sizeOfWriter
  split <;> omega

theorem newWorld_size (N : Nat) (w : World) : (newWorld N w).heap.size = w.heap.size + 3 := by
  unfold newWorld
  simp

theorem newWorld_below (N : Nat) (w : World) : Below w.heap.size w (newWorld N w) :=
  (((Below.refl _ w).alloc (Nat.le_refl _) _).alloc (by simp) _).alloc (by simp; omega) _

/-- a fresh writer, whatever bound Z above its three blocks -/
theorem newWorld_wr (N Z : Nat) (w W : World) (h0 : 0 < N) (h1 : N ≤ 65536) (hZ : w.heap.size + 3 ≤ Z) (hb : Below (w.heap.size + 3) (newWorld N w) W) : WrIs Z w.heap.size (w.heap.size + 1) (w.heap.size + 2) N [] [] W := by
  have b0 : (newWorld N w).heap[w.heap.size]? = some (.cells #[.slice none 0 0, .int .i64 0, .int .i8 0] 65 (0, 0)) := by
    unfold newWorld
    rw [Below.heap_alloc _ _ _ (by simp; omega), Below.heap_alloc _ _ _ (by simp)]
    exact heap_alloc_new w _
  have b1 : (newWorld N w).heap[w.heap.size + 1]? = some (.cells (madeCells #[.int .u8 0] N) 5 (0, 0)) := by
    unfold newWorld
    rw [Below.heap_alloc _ _ _ (by simp)]
    have := heap_alloc_new (w.alloc (.cells #[.slice none 0 0, .int .i64 0, .int .i8 0] 65)) (.cells (madeCells #[.int .u8 0] N) 5)
    rwa [World.size_alloc] at this
  have b2 : (newWorld N w).heap[w.heap.size + 2]? = some (.cells #[.nilIface, .slice (some ⟨w.heap.size + 1, 0, none⟩) N N, .int .i64 0, .iface 43 (.pointer (some ⟨w.heap.size, 0, none⟩))] 91 (0, 0)) := by
    have := heap_alloc_new ((w.alloc (.cells #[.slice none 0 0, .int .i64 0, .int .i8 0] 65)).alloc (.cells (madeCells #[.int .u8 0] N) 5)) (.cells #[.nilIface, .slice (some ⟨w.heap.size + 1, 0, none⟩) N N, .int .i64 0, .iface 43 (.pointer (some ⟨w.heap.size, 0, none⟩))] 91)
    rw [World.size_alloc, World.size_alloc] at this
    exact this
  refine ⟨⟨none, 0, 0, by rw [hb.block _ (by omega)]; exact b0, by omega, .inl ⟨rfl, rfl, rfl⟩⟩, by omega, by omega, by omega, by omega, by omega, h0, h1, by rw [hb.block _ (by omega)]; exact b2, madeCells #[.int .u8 0] N, by rw [hb.block _ (by omega)]; exact b1, size_madeCells _ _, rfl, Nat.zero_le _⟩

theorem below_drewN' (B : Nat) (w : World) (n : Nat) : Below B w (w.drewN n) := ⟨rfl, rfl, rfl, Nat.le_refl _, fun _ _ => rfl⟩

set_option maxHeartbeats 1000000 in
set_option maxRecDepth 100000 in
/-- AvailableBuffer of a writer in whose row nothing waits: the row's head, no element, all the room -/
theorem availBuf (Z bx bb bw N : Nat) (out : List UInt8) (w : World) (h : WrIs Z bx bb bw N out [] w) :
    Calls Tryf.prog 44 #[.pointer (some ⟨bw, 0, none⟩)] w fun e w' => e = .returned (.slice (some ⟨bb, 0, none⟩) 0 N) ∧ ∃ n, w' = w.drewN n := by
  have hst := h.st
  have hlim := h.lim
  have hpos := h.pos
  have c1 : w.cell? ⟨bw, 1, none⟩ = some (.slice (some ⟨bb, 0, none⟩) N N) := by rw [Lib.cell_of_heap hst]; rfl
  have c2 : w.cell? ⟨bw, 2, none⟩ = some (.int .i64 0) := by rw [Lib.cell_of_heap hst]; rfl
  have hne : ¬ N = 0 := by omega
  clear h hst
  go_enter Tryf.func44, Tryf.ntmps44
  go_wp2_with fail
  go_quiet (fail)
  go_wp2
  go_ret
  exact ⟨rfl, _, rfl⟩

/-- a slice that holds just these bytes (nil where there are none and nothing was ever written) -/
def OutIs (v : Value) (l : List UInt8) (w : World) : Prop :=
  (v = .slice none 0 0 ∧ l = []) ∨ ∃ g cap, v = .slice (some ⟨g, 0, none⟩) l.length cap ∧ g < w.heap.size ∧ l.length ≤ cap ∧ cap ≤ maxLen ∧ SrcAt g 0 l w

theorem bytes_of (bx Z : Nat) (out : List UInt8) (w : World) (h : BufIs bx Z (Lib.byteCells out) w) :
    Calls Tryf.prog 31 #[.pointer (some ⟨bx, 0, none⟩)] w fun e w' => ∃ v, e = .returned v ∧ OutIs v out w' ∧ ∃ n, w' = w.drewN n := by
  obtain ⟨ao, cap, lr, hbk, hbZ, hc⟩ := h
  have hI : Lib.IsBuffer 65 5 bx bx (Lib.byteCells out) w := by
    refine ⟨Nat.le_refl _, _, _, hbk, ⟨by rw [Nat.mul_one], ?_⟩, ?_⟩
    · rcases hc with ⟨e1, e2, e3⟩ | ⟨l0, g, cur, e1, hZg, hg, k1, k2, k3, k4⟩
      · left
        rw [e1, e2, e3]
        exact ⟨rfl, rfl⟩
      · right
        exact ⟨g, cap, cur, by rw [e1], by omega, hg, k1, k2, by rw [Nat.mul_one]; exact k3, by rw [Nat.mul_one]; exact k4⟩
    · rcases hc with ⟨e1, e2, e3⟩ | ⟨l0, g, cur, e1, hZg, hg, k1, k2, k3, k4⟩
      · rw [e2]; simp [Value.ownBlock]
      · rw [e1]; simp [Value.ownBlock]; omega
  refine (Tryf.Buffer_Bytes bx bx (Lib.byteCells out) w hI).mono ?_
  rintro e w' ⟨v, rfl, hown, n, rfl⟩
  refine ⟨v, rfl, ?_, n, rfl⟩
  obtain ⟨_, ho⟩ := hown
  rcases ho with ⟨e1, e2⟩ | ⟨g, cap2, cur, e1, _, hg, k1, k2, k3, k4⟩
  · left
    refine ⟨e1, List.eq_nil_of_length_eq_zero (by rw [byteCells_length] at e2; exact e2)⟩
  · right
    rw [byteCells_length] at e1 k1 k4
    rw [Nat.mul_one] at k4
    exact ⟨g, cap2, e1, Lib.lt_of_heap hg, k1, k2, SrcAt.of_row hg k4⟩

set_option maxHeartbeats 1000000 in
set_option maxRecDepth 100000 in
theorem flushed (Z bx bb bw N : Nat) (out pend : List UInt8) (w : World) (h : WrIs Z bx bb bw N out pend w) (hZ : Z ≤ w.heap.size) (hlim : out.length + pend.length ≤ 140737488355328) :
    Calls Tryf.prog 17 #[.pointer (some ⟨bw, 0, none⟩), .pointer (some ⟨bx, 0, none⟩)] w fun e w' => ∃ v, e = .returned v ∧ OutIs v (out ++ pend) w' ∧ Fr Z [bx, bb, bw] w w' := by
  have H := Lib.hid h
  clear h
  go_enter Tryf.func17, Tryf.ntmps17
  go_wp2_with fail
  refine (flush Z bx bb bw N out pend _ H.out hZ hlim).mono ?_
  rintro e w1 ⟨rfl, h1, F1⟩
  have H1 := Lib.hid h1
  have F1' := Lib.hid F1
  clear h1 F1
  go_wp2_with fail
  refine (bytes_of bx Z (out ++ pend) _ H1.out.buf).mono ?_
  rintro e w2 ⟨v, rfl, ho, n, rfl⟩
  have HO := Lib.hid ho
  clear ho
  go_wp2
  go_ret
  exact ⟨v, rfl, HO.out, F1'.out.drewN n⟩
end Go.Proofs.Qxb6615679aFmt
