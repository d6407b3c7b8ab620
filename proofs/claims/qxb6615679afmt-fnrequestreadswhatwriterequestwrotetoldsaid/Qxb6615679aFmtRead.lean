/-
  The reading side: bufio.NewReaderSize over a nil reader, NewReader, split, inPlace, request, ZZrequestOf.
-/
import Derived.Test.Qxb6615679aFmtMain3
namespace Go.Proofs.Qxb6615679aFmt
open Go.RowKit Go.Stop

set_option maxHeartbeats 1000000 in
set_option maxRecDepth 100000 in
theorem bytes25_any (x0 x1 x2 x3 x4 x5 : Value) (a0 a1 a2 : Option Addr) (ne nk nv c0 c1 c2 : Nat) (w : World) :
    Calls Tryf.prog 25 #[x0, x1, x2, x3, x4, x5, .slice a0 ne c0, .slice a1 nk c1, .slice a2 nv c2] w fun e w' => e = .returned (.bool (bytesB (ne + nk + nv))) ∧ w' = w := by
  by_cases h0 : 1048576 < ne
  · go_enter Tryf.func25, Tryf.ntmps25
    go_wp2
    go_ret
    exact ⟨by rw [bytesB_false (by omega)]; rfl, rfl⟩
  by_cases h1 : 1048576 < nk
  · go_enter Tryf.func25, Tryf.ntmps25
    go_wp2
    go_ret
    exact ⟨by rw [bytesB_false (by omega)]; rfl, rfl⟩
  by_cases h2 : 1048576 < ne + nk
  · go_enter Tryf.func25, Tryf.ntmps25
    go_wp2
    go_ret
    exact ⟨by rw [bytesB_false (by omega)]; rfl, rfl⟩
  by_cases h3 : 1048576 < nv
  · go_enter Tryf.func25, Tryf.ntmps25
    go_wp2
    go_ret
    exact ⟨by rw [bytesB_false (by omega)]; rfl, rfl⟩
  by_cases h4 : 1048576 < ne + nk + nv
  · go_enter Tryf.func25, Tryf.ntmps25
    go_wp2
    go_ret
    exact ⟨by rw [bytesB_false (by omega)]; rfl, rfl⟩
  go_enter Tryf.func25, Tryf.ntmps25
  go_wp2
  go_ret
  exact ⟨by rw [bytesB_true (by omega)]; rfl, rfl⟩

theorem assert70 (w : World) : (Instr.typeAssert .nilIface 97 70 true).run Tryf.prog w = .ok (.tuple #[.pointer none, .bool false]) w := by kernel_rfl

set_option maxHeartbeats 1000000 in
set_option maxRecDepth 100000 in
/-- a reader over nothing: its buffer has N bytes -/
theorem newReader_any (N : Nat) (w : World) (h0 : 16 ≤ N) (h1 : N ≤ 65536) :
    Calls Tryf.prog 32 #[.nilIface, .int .i64 N] w fun e w' => e = .returned (.pointer (some ⟨w.heap.size, 0, none⟩)) ∧ w'.cell? ⟨w.heap.size, 0, none⟩ = some (.slice (some ⟨w.heap.size + 1, 0, none⟩) N N) ∧ w.heap.size < w'.heap.size ∧ Below w.heap.size w w' := by
  have hmk : ∀ w : World, (Instr.makeSlice 25 (.int .i64 (max (N : Int) 16)) (.int .i64 (max (N : Int) 16))).run Tryf.prog w = .ok (.slice (some ⟨w.heap.size, 0, none⟩) N N) (w.alloc (.cells (madeCells #[.int .u8 0] N) 5)) := fun w => by
    rw [show max (N : Int) 16 = (N : Int) by omega]
    exact run_make_row' (P := Tryf.prog) 25 5 (.int .u8 0) 1 Tryf.underlying25 info5 rfl .i64 .i64 N (by omega) (by omega) w
  have hta := assert70
  go_enter Tryf.func32, Tryf.ntmps32
  go_wp2
  refine bodyPost_end (results_none rfl _ _ _) rfl ?_
  go_wp2
  go_ret
  refine ⟨rfl, ?_, by simp; omega, ((Below.refl _ _).alloc (Nat.le_refl _) _).alloc (by simp) _⟩
  rw [Lib.cell_of_heap (b := w.heap.size) (by rw [Below.heap_alloc _ _ _ (by simp)]; exact heap_alloc_new w _)]
  rfl

/-- a row that a slice shows, in a block below B -/
def RowB (B : Nat) (v : Value) (l : List UInt8) (w : World) : Prop := ∃ ao c, v = .slice ao l.length c ∧ (l = [] ∨ ∃ sb o, ao = some ⟨sb, o, none⟩ ∧ sb < B ∧ SrcAt sb o l w)
theorem RowB.row {B : Nat} {v : Value} {l : List UInt8} {w : World} (h : RowB B v l w) : RowOf v l w := by
  obtain ⟨ao, c, h0, h1⟩ := h
  refine ⟨ao, c, h0, ?_⟩
  rcases h1 with h1 | ⟨sb, o, h2, _, h3⟩
  · exact .inl h1
  · exact .inr ⟨sb, o, h2, h3⟩
theorem RowB.below {B B' : Nat} {v : Value} {l : List UInt8} {w w' : World} (h : RowB B v l w) (hb : Below B' w w') (hB : B ≤ B') : RowB B v l w' := by
  obtain ⟨ao, c, h0, h1⟩ := h
  refine ⟨ao, c, h0, ?_⟩
  rcases h1 with h1 | ⟨sb, o, h2, hlt, h3⟩
  · exact .inl h1
  · exact .inr ⟨sb, o, h2, hlt, h3.below hb (Nat.lt_of_lt_of_le hlt hB)⟩
theorem rowB_at {B g o : Nat} {l : List UInt8} {w : World} (h : SrcAt g o l w) (hg : g < B) {n : Nat} (hn : n = l.length) (c : Nat) : RowB B (.slice (some ⟨g, o, none⟩) n c) l w := ⟨_, c, by rw [hn], .inr ⟨g, o, rfl, hg, h⟩⟩
theorem rowB_nil (B : Nat) (ao : Option Addr) (c : Nat) {n : Nat} (hn : n = 0) {l : List UInt8} (hl : l = []) (w : World) : RowB B (.slice ao n c) l w := ⟨ao, c, by rw [hn, hl]; rfl, .inl hl⟩

set_option maxHeartbeats 1000000 in
set_option maxRecDepth 100000 in
theorem reader_any (b : Nat) (w : World) :
    Calls Tryf.prog 35 #[.pointer (some ⟨b, 0, none⟩)] w fun e w' => e = .returned (.pointer (some ⟨w.heap.size, 0, none⟩)) ∧ w' = w.alloc (.cells #[.pointer (some ⟨b, 0, none⟩), .func (.func 51) #[] #[], .int .u8 0, .int .u8 0, .int .u16 0, .int .u32 0, .int .u64 0, .slice none 0 0, .slice none 0 0, .slice none 0 0, .bool false, .int .u8 0, .int .u16 0, .int .u32 0, .int .u64 0, .slice none 0 0, .slice none 0 0, .slice none 0 0] 79) := by
  go_enter Tryf.func35, Tryf.ntmps35
  go_wp2
  go_ret
  exact ⟨rfl, rfl⟩

def fitB (bl N : Nat) : Bool := decide (24 + bl ≤ N)
set_option maxHeartbeats 1000000 in
set_option maxRecDepth 100000 in
theorem inPlace_any (rd br N bl : Nat) (a : Option Addr) (w : World) (h0 : w.cell? ⟨rd, 0, none⟩ = some (.pointer (some ⟨br, 0, none⟩))) (h1 : w.cell? ⟨br, 0, none⟩ = some (.slice a N N)) (hN : N ≤ 65536) (hb : bl < 4294967296) :
    Calls Tryf.prog 55 #[.pointer (some ⟨rd, 0, none⟩), .int .u32 bl] w fun e w' => e = .returned (.bool (fitB bl N)) ∧ w' = w := by
  go_enter Tryf.func55, Tryf.ntmps55
  go_wp2
  go_ret
  refine ⟨?_, rfl⟩
  show Ending.returned (.bool (decide ((24 : Int) + (bl : Int) ≤ (N : Int)))) = _
  unfold fitB
  rw [decide_eq_decide.mpr (show ((24 : Int) + (bl : Int) ≤ (N : Int)) ↔ (24 + bl ≤ N) by omega)]

set_option maxHeartbeats 1000000 in
set_option maxRecDepth 100000 in
theorem split_any (B : Nat) (H : Hdr) (g o c : Nat) (le lk lv : List UInt8) (w : World) (he : H.el = le.length) (hk : H.kl = lk.length) (hs : SrcAt g o (le ++ lk ++ lv) w) (hg : g < B) (hc : le.length + lk.length + lv.length ≤ c)
    (b0 : le.length ≤ 255) (b1 : lk.length ≤ 250) (b2 : lv.length ≤ 1048576) :
    Calls Tryf.prog 54 #[.agg H.cells, .slice (some ⟨g, o, none⟩) (le.length + lk.length + lv.length) c] w fun e w' => ∃ s1 s2 s3, e = .returned (.tuple #[s1, s2, s3]) ∧ RowB B s1 le w ∧ RowB B s2 lk w ∧ RowB B s3 lv w ∧ Below w.heap.size w w' := by
  have H1 := Lib.hid (fun c' => rowB_at (SrcAt.left (SrcAt.left hs)) hg rfl c')
  have H2 := Lib.hid (fun n c' (hn : n = lk.length) => rowB_at (SrcAt.right (SrcAt.left hs) rfl) hg hn c')
  have H3 := Lib.hid (fun n c' (hn : n = lv.length) => rowB_at (SrcAt.right hs (n := le.length + lk.length) (by rw [List.length_append])) hg hn c')
  clear hs hg
  simp only [Hdr.cells]
  rw [he, hk]
  by_cases e1 : c = le.length
  · have z1 : lk.length = 0 := by omega
    have z2 : lv.length = 0 := by omega
    have l1 := List.eq_nil_of_length_eq_zero z1
    have l2 := List.eq_nil_of_length_eq_zero z2
    subst l1 l2
    clear H2 H3
    go_enter Tryf.func54, Tryf.ntmps54
    go_wp2_with fail
    go_quiet (fail)
    go_wp2_with fail
    go_ret3
    exact ⟨_, _, _, rfl, H1.out _, rowB_nil _ _ _ rfl rfl _, rowB_nil _ _ _ rfl rfl _, ((Below.refl _ _).alloc (Nat.le_refl _) _).trans (below_drewN' _ _ _)⟩
  · by_cases e2 : c = le.length + lk.length
    · have z2 : lv.length = 0 := by omega
      have l2 := List.eq_nil_of_length_eq_zero z2
      have hne : ¬ lk = [] := fun h => e1 (by rw [e2, h]; rfl)
      subst l2
      clear H3
      go_enter Tryf.func54, Tryf.ntmps54
      go_wp2_with fail
      go_quiet (fail)
      go_wp2_with fail
      go_ret3
      exact ⟨_, _, _, rfl, H1.out _, H2.out _ _ (by omega), rowB_nil _ _ _ (Nat.sub_self _) rfl _, ((Below.refl _ _).alloc (Nat.le_refl _) _).trans (below_drewN' _ _ _)⟩
    · go_enter Tryf.func54, Tryf.ntmps54
      go_wp2_with fail
      go_quiet (fail)
      go_wp2_with fail
      go_ret3
      exact ⟨_, _, _, rfl, H1.out _, H2.out _ _ (by omega), H3.out _ _ (by omega), ((Below.refl _ _).alloc (Nat.le_refl _) _).trans (below_drewN' _ _ _)⟩

/-- the reader's struct: the buffered reader, the room, the request read last, the response read last -/
def rdCells (p0 p1 a0 a1 a2 a3 a4 a5 a6 a7 a8 q0 q1 q2 q3 q4 q5 q6 : Value) : Array Value := #[p0, p1, a0, a1, a2, a3, a4, a5, a6, a7, a8, q0, q1, q2, q3, q4, q5, q6]
/-- a request's nine cells stored, one behind the other -/
def storeReq (w : World) (r : Nat) (b0 b1 b2 b3 b4 b5 b6 b7 b8 : Value) : World := (((((((((w.setCell ⟨r, 2, none⟩ b0).setCell ⟨r, 3, none⟩ b1).setCell ⟨r, 4, none⟩ b2).setCell ⟨r, 5, none⟩ b3).setCell ⟨r, 6, none⟩ b4).setCell ⟨r, 7, none⟩ b5).setCell ⟨r, 8, none⟩ b6).setCell ⟨r, 9, none⟩ b7).setCell ⟨r, 10, none⟩ b8)
theorem storeReq_row {r : Nat} {w : World} {p0 p1 a0 a1 a2 a3 a4 a5 a6 a7 a8 q0 q1 q2 q3 q4 q5 q6 : Value} (h0 : w.heap[r]? = some (.cells #[p0, p1, a0, a1, a2, a3, a4, a5, a6, a7, a8, q0, q1, q2, q3, q4, q5, q6] 79 (0, 0))) (b0 b1 b2 b3 b4 b5 b6 b7 b8 : Value) : (storeReq w r b0 b1 b2 b3 b4 b5 b6 b7 b8).heap[r]? = some (.cells #[p0, p1, b0, b1, b2, b3, b4, b5, b6, b7, b8, q0, q1, q2, q3, q4, q5, q6] 79 (0, 0)) := by
  unfold storeReq
  have h1 : (w.setCell ⟨r, 2, none⟩ b0).heap[r]? = some (.cells #[p0, p1, b0, a1, a2, a3, a4, a5, a6, a7, a8, q0, q1, q2, q3, q4, q5, q6] 79 (0, 0)) := Lib.heap_setCell_same h0 (i := 2) b0
  generalize w.setCell ⟨r, 2, none⟩ b0 = w1 at *
  have h2 : (w1.setCell ⟨r, 3, none⟩ b1).heap[r]? = some (.cells #[p0, p1, b0, b1, a2, a3, a4, a5, a6, a7, a8, q0, q1, q2, q3, q4, q5, q6] 79 (0, 0)) := Lib.heap_setCell_same h1 (i := 3) b1
  generalize w1.setCell ⟨r, 3, none⟩ b1 = w2 at *
  have h3 : (w2.setCell ⟨r, 4, none⟩ b2).heap[r]? = some (.cells #[p0, p1, b0, b1, b2, a3, a4, a5, a6, a7, a8, q0, q1, q2, q3, q4, q5, q6] 79 (0, 0)) := Lib.heap_setCell_same h2 (i := 4) b2
  generalize w2.setCell ⟨r, 4, none⟩ b2 = w3 at *
  have h4 : (w3.setCell ⟨r, 5, none⟩ b3).heap[r]? = some (.cells #[p0, p1, b0, b1, b2, b3, a4, a5, a6, a7, a8, q0, q1, q2, q3, q4, q5, q6] 79 (0, 0)) := Lib.heap_setCell_same h3 (i := 5) b3
  generalize w3.setCell ⟨r, 5, none⟩ b3 = w4 at *
  have h5 : (w4.setCell ⟨r, 6, none⟩ b4).heap[r]? = some (.cells #[p0, p1, b0, b1, b2, b3, b4, a5, a6, a7, a8, q0, q1, q2, q3, q4, q5, q6] 79 (0, 0)) := Lib.heap_setCell_same h4 (i := 6) b4
  generalize w4.setCell ⟨r, 6, none⟩ b4 = w5 at *
  have h6 : (w5.setCell ⟨r, 7, none⟩ b5).heap[r]? = some (.cells #[p0, p1, b0, b1, b2, b3, b4, b5, a6, a7, a8, q0, q1, q2, q3, q4, q5, q6] 79 (0, 0)) := Lib.heap_setCell_same h5 (i := 7) b5
  generalize w5.setCell ⟨r, 7, none⟩ b5 = w6 at *
  have h7 : (w6.setCell ⟨r, 8, none⟩ b6).heap[r]? = some (.cells #[p0, p1, b0, b1, b2, b3, b4, b5, b6, a7, a8, q0, q1, q2, q3, q4, q5, q6] 79 (0, 0)) := Lib.heap_setCell_same h6 (i := 8) b6
  generalize w6.setCell ⟨r, 8, none⟩ b6 = w7 at *
  have h8 : (w7.setCell ⟨r, 9, none⟩ b7).heap[r]? = some (.cells #[p0, p1, b0, b1, b2, b3, b4, b5, b6, b7, a8, q0, q1, q2, q3, q4, q5, q6] 79 (0, 0)) := Lib.heap_setCell_same h7 (i := 9) b7
  generalize w7.setCell ⟨r, 9, none⟩ b7 = w8 at *
  have h9 : (w8.setCell ⟨r, 10, none⟩ b8).heap[r]? = some (.cells #[p0, p1, b0, b1, b2, b3, b4, b5, b6, b7, b8, q0, q1, q2, q3, q4, q5, q6] 79 (0, 0)) := Lib.heap_setCell_same h8 (i := 10) b8
  exact h9
theorem storeReq_other {r k : Nat} {w : World} (h : k ≠ r) (b0 b1 b2 b3 b4 b5 b6 b7 b8 : Value) : (storeReq w r b0 b1 b2 b3 b4 b5 b6 b7 b8).heap[k]? = w.heap[k]? := by
  unfold storeReq
  rw [Below.heap_setCell _ _ _ _ (by exact h), Below.heap_setCell _ _ _ _ (by exact h), Below.heap_setCell _ _ _ _ (by exact h), Below.heap_setCell _ _ _ _ (by exact h), Below.heap_setCell _ _ _ _ (by exact h), Below.heap_setCell _ _ _ _ (by exact h), Below.heap_setCell _ _ _ _ (by exact h), Below.heap_setCell _ _ _ _ (by exact h), Below.heap_setCell _ _ _ _ (by exact h)]
theorem storeReq_below {B r : Nat} {a w : World} (h : Below B a w) (hr : B ≤ r) (b0 b1 b2 b3 b4 b5 b6 b7 b8 : Value) : Below B a (storeReq w r b0 b1 b2 b3 b4 b5 b6 b7 b8) :=
  ((((((((h.setCell (p := ⟨r, 2, none⟩) hr b0).setCell (p := ⟨r, 3, none⟩) hr b1).setCell (p := ⟨r, 4, none⟩) hr b2).setCell (p := ⟨r, 5, none⟩) hr b3).setCell (p := ⟨r, 6, none⟩) hr b4).setCell (p := ⟨r, 7, none⟩) hr b5).setCell (p := ⟨r, 8, none⟩) hr b6).setCell (p := ⟨r, 9, none⟩) hr b7).setCell (p := ⟨r, 10, none⟩) hr b8
theorem drew_heap (X : World) : X.drew.heap = X.heap := rfl
theorem hdr_drew {hb : Nat} {H : Hdr} {X : World} (h : X.heap[hb]? = some (.cells H.cells 60 (0, 0))) : X.drew.cell? ⟨hb, 1, none⟩ = some (.int .u8 H.op) ∧ X.drew.cell? ⟨hb, 4, none⟩ = some (.int .u8 H.dt) ∧ X.drew.cell? ⟨hb, 5, none⟩ = some (.int .u16 H.f6) ∧ X.drew.cell? ⟨hb, 7, none⟩ = some (.int .u32 H.oq) ∧ X.drew.cell? ⟨hb, 8, none⟩ = some (.int .u64 H.cas) ∧ X.drew.cell? ⟨hb, 6, none⟩ = some (.int .u32 H.bl) ∧ Hid (X.drew.heap[hb]? = some (.cells H.cells 60 (0, 0))) := by
  have hh : X.drew.heap[hb]? = some (.cells H.cells 60 (0, 0)) := h
  refine ⟨?_, ?_, ?_, ?_, ?_, ?_, Lib.hid hh⟩ <;> (rw [Lib.cell_of_heap hh]; rfl)
theorem storeReq_keep {hb r : Nat} {H : Hdr} {a : World} (h : a.heap[hb]? = some (.cells H.cells 60 (0, 0))) (hne : hb ≠ r) (b0 b1 b2 b3 b4 b5 b6 b7 b8 : Value) :
    (storeReq a r b0 b1 b2 b3 b4 b5 b6 b7 b8).drew.cell? ⟨hb, 1, none⟩ = some (.int .u8 H.op) ∧ (storeReq a r b0 b1 b2 b3 b4 b5 b6 b7 b8).drew.cell? ⟨hb, 4, none⟩ = some (.int .u8 H.dt) ∧ (storeReq a r b0 b1 b2 b3 b4 b5 b6 b7 b8).drew.cell? ⟨hb, 5, none⟩ = some (.int .u16 H.f6) ∧ (storeReq a r b0 b1 b2 b3 b4 b5 b6 b7 b8).drew.cell? ⟨hb, 7, none⟩ = some (.int .u32 H.oq) ∧ (storeReq a r b0 b1 b2 b3 b4 b5 b6 b7 b8).drew.cell? ⟨hb, 8, none⟩ = some (.int .u64 H.cas) ∧ (storeReq a r b0 b1 b2 b3 b4 b5 b6 b7 b8).drew.cell? ⟨hb, 6, none⟩ = some (.int .u32 H.bl) ∧ Hid ((storeReq a r b0 b1 b2 b3 b4 b5 b6 b7 b8).drew.heap[hb]? = some (.cells H.cells 60 (0, 0))) :=
  hdr_drew (by rw [storeReq_other hne]; exact h)

set_option maxHeartbeats 4000000 in
set_option maxRecDepth 100000 in
theorem readRequest_any (B : Nat) (H : Hdr) (hf : H.fits) (rd br N g o c : Nat) (a : Option Addr) (p1 a0 a1 a2 a3 a4 a5 a6 a7 a8 q0 q1 q2 q3 q4 q5 q6 : Value) (le lk lv : List UInt8) (w : World) (he : H.el = le.length) (hk : H.kl = lk.length) (hs : SrcAt g o (le ++ lk ++ lv) w) (hg : g < B) (hB : B ≤ rd) (hc : le.length + lk.length + lv.length ≤ c)
    (b0 : le.length ≤ 255) (b1 : lk.length ≤ 250) (b2 : lv.length ≤ 1048576) (hN : N ≤ 65536)
    (hrd : w.heap[rd]? = some (.cells #[.pointer (some ⟨br, 0, none⟩), p1, a0, a1, a2, a3, a4, a5, a6, a7, a8, q0, q1, q2, q3, q4, q5, q6] 79 (0, 0))) (hbr : w.cell? ⟨br, 0, none⟩ = some (.slice a N N)) (hrlt : rd < w.heap.size) (hblt : br < w.heap.size) :
    Calls Tryf.prog 38 #[.pointer (some ⟨rd, 0, none⟩), .agg H.cells, .slice (some ⟨g, o, none⟩) (le.length + lk.length + lv.length) c] w fun e w' => ∃ s1 s2 s3, e = .returned (.pointer (some ⟨rd, 2, none⟩)) ∧
      w'.heap[rd]? = some (.cells #[.pointer (some ⟨br, 0, none⟩), p1, .int .u8 H.op, .int .u8 H.dt, .int .u16 H.f6, .int .u32 H.oq, .int .u64 H.cas, s1, s2, s3, .bool (!fitB H.bl N), q0, q1, q2, q3, q4, q5, q6] 79 (0, 0)) ∧
      RowB B s1 le w' ∧ RowB B s2 lk w' ∧ RowB B s3 lv w' ∧ Below rd w w' := by
  obtain ⟨W0, hW0⟩ : ∃ W0, W0 = w.alloc (.cells #[.int .u8 H.m, .int .u8 H.op, .int .u16 H.kl, .int .u8 H.el, .int .u8 H.dt, .int .u16 H.f6, .int .u32 H.bl, .int .u32 H.oq, .int .u64 H.cas] 60) := ⟨_, rfl⟩
  have hb0 : Below w.heap.size w W0 := by rw [hW0]; exact (Below.refl _ _).alloc (Nat.le_refl _) _
  have hz0 : W0.heap.size = w.heap.size + 1 := by rw [hW0]; simp
  have hH0 : W0.heap[w.heap.size]? = some (.cells H.cells 60 (0, 0)) := by rw [hW0]; exact heap_alloc_new w _
  have hsp := split_any B H g o c le lk lv W0 he hk (hs.below hb0 (by omega)) hg hc b0 b1 b2
  have HSP := Lib.hid hsp
  have HW0 := Lib.hid hW0
  have HB0 := Lib.hid hb0
  have HH0 := Lib.hid hH0
  have HZ0 := Lib.hid hz0
  have HRD := Lib.hid hrd
  have HBR := Lib.hid hbr
  have HF := Lib.hid hf
  have hne : w.heap.size ≠ rd := by omega
  have HNE := Lib.hid hne
  clear hsp hW0 hb0 hH0 hz0 hrd hbr hf hs hne he hk
  simp only [Hdr.cells] at HSP ⊢
  go_enter Tryf.func38, Tryf.ntmps38
  go_wp2_with fail
  rw [← HW0.out]
  refine HSP.out.mono ?_
  rintro e W1 ⟨s1, s2, s3, rfl, t1, t2, t3, hb1⟩
  have hH : W1.drew.heap[w.heap.size]? = some (.cells H.cells 60 (0, 0)) := by
    show W1.heap[w.heap.size]? = _
    rw [hb1.block _ (by rw [HZ0.out]; omega)]
    exact HH0.out
  have hR : W1.drew.heap[rd]? = some (.cells #[.pointer (some ⟨br, 0, none⟩), p1, a0, a1, a2, a3, a4, a5, a6, a7, a8, q0, q1, q2, q3, q4, q5, q6] 79 (0, 0)) := by
    show W1.heap[rd]? = _
    rw [hb1.block _ (by rw [HZ0.out]; omega), HB0.out.block _ hrlt]
    exact HRD.out
  have hpl := inPlace_any rd br N H.bl a W1.drew (by rw [Lib.cell_of_heap hR]; rfl) (by
    show W1.cell? _ = _
    rw [hb1.cell (p := ⟨br, 0, none⟩) (by show br < _; rw [HZ0.out]; omega), HB0.out.cell (p := ⟨br, 0, none⟩) hblt]
    exact HBR.out) hN HF.out.bl
  have r0 : W1.cell? ⟨rd, 2, none⟩ = some a0 := by rw [Lib.cell_of_heap (show W1.heap[rd]? = _ from hR)]; rfl
  have f0 : W1.frozen? ⟨rd, 2, none⟩ = false := Lib.frozen_of_heap (show W1.heap[rd]? = _ from hR) 2
  have r1 : W1.cell? ⟨rd, 3, none⟩ = some a1 := by rw [Lib.cell_of_heap (show W1.heap[rd]? = _ from hR)]; rfl
  have f1 : W1.frozen? ⟨rd, 3, none⟩ = false := Lib.frozen_of_heap (show W1.heap[rd]? = _ from hR) 3
  have r2 : W1.cell? ⟨rd, 4, none⟩ = some a2 := by rw [Lib.cell_of_heap (show W1.heap[rd]? = _ from hR)]; rfl
  have f2 : W1.frozen? ⟨rd, 4, none⟩ = false := Lib.frozen_of_heap (show W1.heap[rd]? = _ from hR) 4
  have r3 : W1.cell? ⟨rd, 5, none⟩ = some a3 := by rw [Lib.cell_of_heap (show W1.heap[rd]? = _ from hR)]; rfl
  have f3 : W1.frozen? ⟨rd, 5, none⟩ = false := Lib.frozen_of_heap (show W1.heap[rd]? = _ from hR) 5
  have r4 : W1.cell? ⟨rd, 6, none⟩ = some a4 := by rw [Lib.cell_of_heap (show W1.heap[rd]? = _ from hR)]; rfl
  have f4 : W1.frozen? ⟨rd, 6, none⟩ = false := Lib.frozen_of_heap (show W1.heap[rd]? = _ from hR) 6
  have r5 : W1.cell? ⟨rd, 7, none⟩ = some a5 := by rw [Lib.cell_of_heap (show W1.heap[rd]? = _ from hR)]; rfl
  have f5 : W1.frozen? ⟨rd, 7, none⟩ = false := Lib.frozen_of_heap (show W1.heap[rd]? = _ from hR) 7
  have r6 : W1.cell? ⟨rd, 8, none⟩ = some a6 := by rw [Lib.cell_of_heap (show W1.heap[rd]? = _ from hR)]; rfl
  have f6 : W1.frozen? ⟨rd, 8, none⟩ = false := Lib.frozen_of_heap (show W1.heap[rd]? = _ from hR) 8
  have r7 : W1.cell? ⟨rd, 9, none⟩ = some a7 := by rw [Lib.cell_of_heap (show W1.heap[rd]? = _ from hR)]; rfl
  have f7 : W1.frozen? ⟨rd, 9, none⟩ = false := Lib.frozen_of_heap (show W1.heap[rd]? = _ from hR) 9
  have r8 : W1.cell? ⟨rd, 10, none⟩ = some a8 := by rw [Lib.cell_of_heap (show W1.heap[rd]? = _ from hR)]; rfl
  have f8 : W1.frozen? ⟨rd, 10, none⟩ = false := Lib.frozen_of_heap (show W1.heap[rd]? = _ from hR) 10
  have k1 : W1.drew.cell? ⟨w.heap.size, 1, none⟩ = some (.int .u8 H.op) := by rw [Lib.cell_of_heap hH]; rfl
  have k4 : W1.drew.cell? ⟨w.heap.size, 4, none⟩ = some (.int .u8 H.dt) := by rw [Lib.cell_of_heap hH]; rfl
  have k5 : W1.drew.cell? ⟨w.heap.size, 5, none⟩ = some (.int .u16 H.f6) := by rw [Lib.cell_of_heap hH]; rfl
  have k7 : W1.drew.cell? ⟨w.heap.size, 7, none⟩ = some (.int .u32 H.oq) := by rw [Lib.cell_of_heap hH]; rfl
  have k8 : W1.drew.cell? ⟨w.heap.size, 8, none⟩ = some (.int .u64 H.cas) := by rw [Lib.cell_of_heap hH]; rfl
  have k6 : W1.drew.cell? ⟨w.heap.size, 6, none⟩ = some (.int .u32 H.bl) := by rw [Lib.cell_of_heap hH]; rfl
  have HH := Lib.hid hH
  have HH1 : Hid (W1.heap[w.heap.size]? = some (.cells H.cells 60 (0, 0))) := hH
  have HRow : Hid (W1.heap[rd]? = some (.cells #[.pointer (some ⟨br, 0, none⟩), p1, a0, a1, a2, a3, a4, a5, a6, a7, a8, q0, q1, q2, q3, q4, q5, q6] 79 (0, 0))) := hR
  have HPL := Lib.hid hpl
  have HB1 := Lib.hid hb1
  have HT := Lib.hid (And.intro t1 (And.intro t2 t3))
  obtain ⟨x1, y1, rfl, _⟩ := t1
  obtain ⟨x2, y2, rfl, _⟩ := t2
  obtain ⟨x3, y3, rfl, _⟩ := t3
  clear hH hR hpl hb1
  go_wp2_with fail
  go_region_held3 (fun w' => w'.cell? ⟨w.heap.size, 1, none⟩ = some (.int .u8 H.op) ∧ w'.cell? ⟨w.heap.size, 4, none⟩ = some (.int .u8 H.dt) ∧ w'.cell? ⟨w.heap.size, 5, none⟩ = some (.int .u16 H.f6) ∧ w'.cell? ⟨w.heap.size, 7, none⟩ = some (.int .u32 H.oq) ∧ w'.cell? ⟨w.heap.size, 8, none⟩ = some (.int .u64 H.cas) ∧ w'.cell? ⟨w.heap.size, 6, none⟩ = some (.int .u32 H.bl) ∧ Hid (w'.heap[w.heap.size]? = some (.cells H.cells 60 (0, 0)))) (first | (refine ⟨?_, ?_, ?_, ?_, ?_, ?_, ?_⟩ <;> (with_reducible assumption)) | exact storeReq_keep HH1.out HNE.out _ _ _ _ _ _ _ _ _)
    (first
      | (go_at_call 55
         refine HPL.out.mono ?_
         rintro e wk ⟨rfl, rfl⟩))
  generalize hW : World.drew _ = W
  have hbW1 : Below rd w W1 := (HB0.out.mono (by omega)).trans (HB1.out.mono (by rw [HZ0.out]; omega))
  have hrow : W.heap[rd]? = some (.cells #[.pointer (some ⟨br, 0, none⟩), p1, .int .u8 H.op, .int .u8 H.dt, .int .u16 H.f6, .int .u32 H.oq, .int .u64 H.cas, .slice x1 le.length y1, .slice x2 lk.length y2, .slice x3 lv.length y3, .bool (!fitB H.bl N), q0, q1, q2, q3, q4, q5, q6] 79 (0, 0)) := by rw [← hW, drew_heap]; exact storeReq_row HRow.out _ _ _ _ _ _ _ _ _
  have hbel : Below rd w W := by rw [← hW]; exact (storeReq_below hbW1 (Nat.le_refl _) _ _ _ _ _ _ _ _ _).drew
  have hbel1 : Below rd W1 W := by rw [← hW]; exact (storeReq_below (Below.refl rd W1) (Nat.le_refl _) _ _ _ _ _ _ _ _ _).drew
  have hbel0 : Below rd W0 W := (HB1.out.mono (by rw [HZ0.out]; omega)).trans hbel1
  have HX := Lib.hid hrow
  have HY := Lib.hid hbel
  have HZ := Lib.hid hbel0
  clear hW hrow hbel hbel1 hbel0 hbW1
  go_wp2_with fail
  go_ret
  exact ⟨_, _, _, rfl, HX.out, HT.out.1.below HZ.out hB, HT.out.2.1.below HZ.out hB, HT.out.2.2.below HZ.out hB, HY.out⟩
end Go.Proofs.Qxb6615679aFmt
