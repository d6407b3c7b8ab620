/-
  bufio.Writer over this program: the writer as a predicate ('WrIs'), and the walks of Available, Buffered, AvailableBuffer, Flush, Write, NewWriterSize.
-/
import Derived.Test.Qxb6615679aFmtBufWrite
import Derived.Deep.QuietTactic
import Derived.BigQuiet
import Derived.Deep.RegionHeld3
namespace Go.Proofs.Qxb6615679aFmt
open Go.RowKit

theorem method_write (a : Addr) (w : World) : (method 266 43 (.pointer (some a)) "Write").run Tryf.prog w = .ok (84, .pointer (some a)) w := by kernel_rfl
theorem ret_int {k : IntKind} {a b : Int} (h : a = b) : Ending.returned (.int k a) = .returned (.int k b) := by rw [h]

/-- a bufio.Writer without an error: its struct is block bw, its buffer the row bb of N cells, the underlying bytes.Buffer block bx; 'out' has reached the bytes.Buffer, 'pend' waits in the row -/
structure WrIs (Z bx bb bw N : Nat) (out pend : List UInt8) (w : World) : Prop where
  buf : BufIs bx Z (Lib.byteCells out) w
  lb : bb < Z
  lw : bw < Z
  xb : bx ≠ bb
  xw : bx ≠ bw
  nbw : bb ≠ bw
  pos : 0 < N
  lim : N ≤ 65536
  st : w.heap[bw]? = some (.cells #[.nilIface, .slice (some ⟨bb, 0, none⟩) N N, .int .i64 pend.length, .iface 43 (.pointer (some ⟨bx, 0, none⟩))] 91 (0, 0))
  row : ∃ cur, w.heap[bb]? = some (.cells cur 5 (0, 0)) ∧ cur.size = N ∧ cur.toList.take pend.length = Lib.byteCells pend ∧ pend.length ≤ N

theorem WrIs.drewN {Z bx bb bw N : Nat} {out pend : List UInt8} {w : World} (h : WrIs Z bx bb bw N out pend w) (n : Nat) : WrIs Z bx bb bw N out pend (w.drewN n) :=
  ⟨h.buf, h.lb, h.lw, h.xb, h.xw, h.nbw, h.pos, h.lim, h.st, h.row⟩

theorem WrIs.lx {Z bx bb bw N : Nat} {out pend : List UInt8} {w : World} (h : WrIs Z bx bb bw N out pend w) : bx < Z := by
  obtain ⟨_, _, _, _, hb, _⟩ := h.buf
  exact hb

set_option maxHeartbeats 1000000 in
set_option maxRecDepth 100000 in
theorem avail (Z bx bb bw N : Nat) (out pend : List UInt8) (w : World) (h : WrIs Z bx bb bw N out pend w) :
    Calls Tryf.prog 43 #[.pointer (some ⟨bw, 0, none⟩)] w fun e w' => e = .returned (.int .i64 ((N - pend.length : Nat) : Int)) ∧ ∃ n, w' = w.drewN n := by
  have hst := h.st
  have hlim := h.lim
  obtain ⟨cur, _, _, _, hle⟩ := h.row
  have c1 : w.cell? ⟨bw, 1, none⟩ = some (.slice (some ⟨bb, 0, none⟩) N N) := by rw [Lib.cell_of_heap hst]; rfl
  have c2 : w.cell? ⟨bw, 2, none⟩ = some (.int .i64 pend.length) := by rw [Lib.cell_of_heap hst]; rfl
  have hN : (N : Int) ≤ 65536 := by omega
  have hp : (pend.length : Int) ≤ (N : Int) := by omega
  clear h hst
  go_enter Tryf.func43, Tryf.ntmps43
  go_wp2_with fail
  go_quiet (fail)
  go_wp2
  go_ret
  exact ⟨ret_int (by omega), _, rfl⟩

set_option maxRecDepth 100000 in
theorem buffered (Z bx bb bw N : Nat) (out pend : List UInt8) (w : World) (h : WrIs Z bx bb bw N out pend w) :
    Calls Tryf.prog 61 #[.pointer (some ⟨bw, 0, none⟩)] w fun e w' => e = .returned (.int .i64 (pend.length : Int)) ∧ w' = w := by
  have c2 : w.cell? ⟨bw, 2, none⟩ = some (.int .i64 pend.length) := by rw [Lib.cell_of_heap h.st]; rfl
  clear h
  go_enter Tryf.func61, Tryf.ntmps61
  go_wp2
  go_ret
  exact ⟨rfl, rfl⟩

/-- the bytes p lie from place o of block sb on -/
def SrcAt (sb o : Nat) (p : List UInt8) (w : World) : Prop := ∀ j v, (Lib.byteCells p)[j]? = some v → w.cell? ⟨sb, o + j, none⟩ = some v

theorem byteCells_append (a b : List UInt8) : Lib.byteCells (a ++ b) = Lib.byteCells a ++ Lib.byteCells b := List.map_append
theorem byteCells_length (a : List UInt8) : (Lib.byteCells a).length = a.length := List.length_map _
theorem byteCells_take (a : List UInt8) (n : Nat) : Lib.byteCells (a.take n) = (Lib.byteCells a).take n := List.map_take
theorem byteCells_drop (a : List UInt8) (n : Nat) : Lib.byteCells (a.drop n) = (Lib.byteCells a).drop n := List.map_drop

theorem SrcAt.fr {sb o : Nat} {p : List UInt8} {w w' : World} {Z : Nat} {ex : List Nat} (h : SrcAt sb o p w) (hF : Fr Z ex w w') (hs : sb < Z) (hx : sb ∉ ex) : SrcAt sb o p w' :=
  fun j v hj => (hF.cell (p := ⟨sb, o + j, none⟩) hs hx).trans (h j v hj)
theorem SrcAt.below {sb o : Nat} {p : List UInt8} {w w' : World} {B : Nat} (h : SrcAt sb o p w) (hF : Below B w w') (hs : sb < B) : SrcAt sb o p w' :=
  fun j v hj => (hF.cell (p := ⟨sb, o + j, none⟩) hs).trans (h j v hj)
theorem SrcAt.drop {sb o : Nat} {p : List UInt8} {w : World} (h : SrcAt sb o p w) (k : Nat) : SrcAt sb (o + k) (p.drop k) w := fun j v hj => by
  rw [byteCells_drop, List.getElem?_drop] at hj
  rw [Nat.add_assoc]
  exact h (k + j) v hj
theorem SrcAt.take {sb o : Nat} {p : List UInt8} {w : World} (h : SrcAt sb o p w) (k : Nat) : SrcAt sb o (p.take k) w := fun j v hj => by
  rw [byteCells_take, List.getElem?_take] at hj
  split at hj
  · exact h j v hj
  · cases hj
theorem SrcAt.of_row {sb : Nat} {p : List UInt8} {w : World} {cur : Array Value} {T : TypeId} {fr : Nat × Nat} (hg : w.heap[sb]? = some (.cells cur T fr)) (h : cur.toList.take p.length = Lib.byteCells p) : SrcAt sb 0 p w := fun j v hj => by
  rw [← h] at hj
  have := Lib.cells_of_row hg p.length j v hj
  rwa [Lib.addr_add] at this

/-- the writer stays one while the listed blocks stand: what the underlying Write leaves -/
theorem WrIs.wrote {Z bx bb bw N : Nat} {out pend out' : List UInt8} {w w' : World} (h : WrIs Z bx bb bw N out pend w) (hb : BufIs bx Z (Lib.byteCells out') w') (hF : Fr Z [bx] w w') : WrIs Z bx bb bw N out' pend w' :=
  ⟨hb, h.lb, h.lw, h.xb, h.xw, h.nbw, h.pos, h.lim, by rw [hF.block bw h.lw (by simpa using Ne.symm h.xw)]; exact h.st, by
    obtain ⟨cur, hr, rest⟩ := h.row
    exact ⟨cur, by rw [hF.block bb h.lb (by simpa using Ne.symm h.xb)]; exact hr, rest⟩⟩

theorem under_write (Z bx bb bw N : Nat) (out pend : List UInt8) (sb o c : Nat) (p : List UInt8) (w : World) (h : WrIs Z bx bb bw N out pend w) (hZ : Z ≤ w.heap.size)
    (hpos : 0 < p.length) (hsZ : sb < Z) (hsx : sb ≠ bx) (hsrc : SrcAt sb o p w) (hlim : out.length + p.length ≤ 140737488355328) :
    Calls Tryf.prog 84 #[.pointer (some ⟨bx, 0, none⟩), .slice (some ⟨sb, o, none⟩) p.length c] w fun e w' => e = .returned (.tuple #[.int .i64 p.length, .nilIface]) ∧ WrIs Z bx bb bw N (out ++ p) pend w' ∧ Fr Z [bx] w w' := by
  refine (bufWrite bx Z (Lib.byteCells out) (Lib.byteCells p) ⟨sb, o, none⟩ p.length c w h.buf hZ (Lib.byteCells_one _) (byteCells_length p) hpos hsZ hsx (fun j v hj => by rw [Lib.addr_add]; exact hsrc j v hj) (Lib.byteCells_one _) (by rw [byteCells_length]; exact hlim)).mono ?_
  rintro e w' ⟨rfl, hb, hF⟩
  exact ⟨rfl, h.wrote (by rw [byteCells_append]; exact hb) hF, hF⟩

/-- the store of a new count into the writer's struct -/
theorem WrIs.count {Z bx bb bw N : Nat} {out pend pend' : List UInt8} {w : World} (h : WrIs Z bx bb bw N out pend w)
    (hr : ∃ cur, w.heap[bb]? = some (.cells cur 5 (0, 0)) ∧ cur.size = N ∧ cur.toList.take pend'.length = Lib.byteCells pend' ∧ pend'.length ≤ N) :
    WrIs Z bx bb bw N out pend' (w.setCell ⟨bw, 2, none⟩ (.int .i64 pend'.length)) := by
  refine ⟨?_, h.lb, h.lw, h.xb, h.xw, h.nbw, h.pos, h.lim, by rw [Lib.heap_setCell_same h.st]; rfl, ?_⟩
  · obtain ⟨ao, cap, lr, k1, k2, k3⟩ := h.buf
    refine ⟨ao, cap, lr, by rw [Below.heap_setCell _ _ _ _ (by exact h.xw)]; exact k1, k2, ?_⟩
    rcases k3 with k3 | ⟨l0, g, cur, e1, hZg, hg, rest⟩
    · exact .inl k3
    · exact .inr ⟨l0, g, cur, e1, hZg, by rw [Below.heap_setCell _ _ _ _ (by show g ≠ bw; have := h.lw; omega)]; exact hg, rest⟩
  · obtain ⟨cur, h1, rest⟩ := hr
    exact ⟨cur, by rw [Below.heap_setCell _ _ _ _ (by exact h.nbw)]; exact h1, rest⟩

theorem WrIs.reset {Z bx bb bw N : Nat} {out pend : List UInt8} {w : World} (h : WrIs Z bx bb bw N out pend w) : WrIs Z bx bb bw N out [] (w.setCell ⟨bw, 2, none⟩ (.int .i64 0)) := by
  obtain ⟨cur, hr, hs, _, _⟩ := h.row
  exact h.count (pend' := []) ⟨cur, hr, hs, rfl, Nat.zero_le _⟩

theorem WrIs.drew {Z bx bb bw N : Nat} {out pend : List UInt8} {w : World} (h : WrIs Z bx bb bw N out pend w) : WrIs Z bx bb bw N out pend w.drew :=
  ⟨h.buf, h.lb, h.lw, h.xb, h.xw, h.nbw, h.pos, h.lim, h.st, h.row⟩

set_option maxHeartbeats 1000000 in
set_option maxRecDepth 100000 in
theorem flush_some (Z bx bb bw N : Nat) (out pend : List UInt8) (w : World) (h : WrIs Z bx bb bw N out pend w) (hZ : Z ≤ w.heap.size) (hlim : out.length + pend.length ≤ 140737488355328) (hpos : 0 < pend.length) :
    Calls Tryf.prog 30 #[.pointer (some ⟨bw, 0, none⟩)] w fun e w' => e = .returned .nilIface ∧ WrIs Z bx bb bw N (out ++ pend) [] w' ∧ Fr Z [bx, bb, bw] w w' := by
  have hst := h.st
  have hN := h.lim
  have c0 : w.cell? ⟨bw, 0, none⟩ = some .nilIface := by rw [Lib.cell_of_heap hst]; rfl
  have c1 : w.cell? ⟨bw, 1, none⟩ = some (.slice (some ⟨bb, 0, none⟩) N N) := by rw [Lib.cell_of_heap hst]; rfl
  have c2 : w.cell? ⟨bw, 2, none⟩ = some (.int .i64 pend.length) := by rw [Lib.cell_of_heap hst]; rfl
  have c3 : w.cell? ⟨bw, 3, none⟩ = some (.iface 43 (.pointer (some ⟨bx, 0, none⟩))) := by rw [Lib.cell_of_heap hst]; rfl
  obtain ⟨cur, hrow, hcs, htk, hle⟩ := h.row
  have hN' : (N : Int) ≤ 65536 := by omega
  have hp : (pend.length : Int) ≤ (N : Int) := by omega
  have hp0 : 0 < (pend.length : Int) := by omega
  have hb0 : ((pend.length : Int) == 0) = false := by rw [beq_eq_false_iff_ne]; omega
  have hU := Lib.hid (under_write Z bx bb bw N out pend bb 0 N pend w.drew h.drew hZ hpos h.lb (Ne.symm h.xb) (SrcAt.of_row hrow htk) hlim)
  clear h hst hrow hcs htk
  have hm := method_write
  go_enter Tryf.func30, Tryf.ntmps30
  go_wp2_with fail
  go_region_held3 (fun w' => w'.cell? ⟨bw, 1, none⟩ = some (.slice (some ⟨bb, 0, none⟩) N N) ∧ w'.cell? ⟨bw, 2, none⟩ = some (.int .i64 pend.length) ∧ w'.cell? ⟨bw, 3, none⟩ = some (.iface 43 (.pointer (some ⟨bx, 0, none⟩)))) (go_keep)
    (first | (go_at_call 84; refine hU.out.mono ?_; rintro e w1 ⟨rfl, h1, F1⟩; have d1 : w1.cell? ⟨bw, 1, none⟩ = some (.slice (some ⟨bb, 0, none⟩) N N) := (by rw [Lib.cell_of_heap h1.st]; rfl); have d2 : w1.cell? ⟨bw, 2, none⟩ = some (.int .i64 pend.length) := (by rw [Lib.cell_of_heap h1.st]; rfl); have d3 : w1.cell? ⟨bw, 3, none⟩ = some (.iface 43 (.pointer (some ⟨bx, 0, none⟩))) := (by rw [Lib.cell_of_heap h1.st]; rfl); have e2 : w1.frozen? ⟨bw, 2, none⟩ = false := Lib.frozen_of_heap h1.st 2; have H1 := Lib.hid h1; have HF := Lib.hid F1; clear h1 F1))
  go_wp2
  go_ret
  refine ⟨rfl, H1.out.reset, ?_⟩
  exact ((Fr.refl _ _ w).drew.trans (HF.out.mono (by simp))).setCell (.inl (by simp)) _

set_option maxRecDepth 100000 in
theorem flush_none (Z bx bb bw N : Nat) (out : List UInt8) (w : World) (h : WrIs Z bx bb bw N out [] w) :
    Calls Tryf.prog 30 #[.pointer (some ⟨bw, 0, none⟩)] w fun e w' => e = .returned .nilIface ∧ w' = w := by
  have c0 : w.cell? ⟨bw, 0, none⟩ = some .nilIface := by rw [Lib.cell_of_heap h.st]; rfl
  have c2 : w.cell? ⟨bw, 2, none⟩ = some (.int .i64 0) := by rw [Lib.cell_of_heap h.st]; rfl
  clear h
  go_enter Tryf.func30, Tryf.ntmps30
  go_wp2
  go_ret
  exact ⟨rfl, rfl⟩

theorem flush (Z bx bb bw N : Nat) (out pend : List UInt8) (w : World) (h : WrIs Z bx bb bw N out pend w) (hZ : Z ≤ w.heap.size) (hlim : out.length + pend.length ≤ 140737488355328) :
    Calls Tryf.prog 30 #[.pointer (some ⟨bw, 0, none⟩)] w fun e w' => e = .returned .nilIface ∧ WrIs Z bx bb bw N (out ++ pend) [] w' ∧ Fr Z [bx, bb, bw] w w' := by
  by_cases hp : 0 < pend.length
  · exact flush_some Z bx bb bw N out pend w h hZ hlim hp
  · obtain rfl : pend = [] := List.eq_nil_of_length_eq_zero (by omega)
    refine (flush_none Z bx bb bw N out w h).mono ?_
    rintro e w' ⟨rfl, rfl⟩
    exact ⟨rfl, by rw [List.append_nil]; exact h, Fr.refl _ _ _⟩
end Go.Proofs.Qxb6615679aFmt
