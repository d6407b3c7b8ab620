/-
  parseHeader and ZZheaderOf over 24 bytes that a header's put has laid.
-/
import Derived.Test.Qxb6615679aFmtZzwr
import Derived.Lib.EndianMore
namespace Go.Proofs.Qxb6615679aFmt
open Go.RowKit

theorem src_cell {g o : Nat} {l : List UInt8} {w : World} (h : SrcAt g o l w) (i : Nat) (hi : i < l.length) : w.cell? ⟨g, o + i, none⟩ = some (.int .u8 (l[i].toNat : Nat)) := by
  refine h i _ ?_
  unfold Lib.byteCells
  rw [List.getElem?_map, List.getElem?_eq_getElem hi]
  rfl

theorem get16 (v : Nat) (hv : v < 65536) (g o n c : Nat) (w : World) (hn : 2 ≤ n) (h : SrcAt g o (Lib.beBytes 2 v) w) :
    Calls Tryf.prog 39 #[.agg #[], .slice (some ⟨g, o, none⟩) n c] w fun e w' => e = .returned (.int .u16 v) ∧ Below w.heap.size w w' := by
  have hl := beBytes_length 2 v
  have hb : Lib.beNat (Lib.beBytes 2 v) = v := Lib.beNat_beBytes 2 v (by omega)
  generalize Lib.beBytes 2 v = l at *
  match l, hl with
  | [b0, b1], _ =>
    have h0 := src_cell h 0 (by simp)
    have h1 := src_cell h 1 (by simp)
    refine (Tryf.binary_BE_Uint16 g o n c b0 b1 w hn h0 h1).mono ?_
    rintro e w' ⟨rfl, h⟩
    exact ⟨by rw [hb], h⟩
theorem get32 (v : Nat) (hv : v < 4294967296) (g o n c : Nat) (w : World) (hn : 4 ≤ n) (h : SrcAt g o (Lib.beBytes 4 v) w) :
    Calls Tryf.prog 40 #[.agg #[], .slice (some ⟨g, o, none⟩) n c] w fun e w' => e = .returned (.int .u32 v) ∧ Below w.heap.size w w' := by
  have hl := beBytes_length 4 v
  have hb : Lib.beNat (Lib.beBytes 4 v) = v := Lib.beNat_beBytes 4 v (by omega)
  generalize Lib.beBytes 4 v = l at *
  match l, hl with
  | [b0, b1, b2, b3], _ =>
    refine (Tryf.binary_BE_Uint32 g o n c b0 b1 b2 b3 w hn (src_cell h 0 (by simp)) (src_cell h 1 (by simp)) (src_cell h 2 (by simp)) (src_cell h 3 (by simp))).mono ?_
    rintro e w' ⟨rfl, h⟩
    exact ⟨by rw [hb], h⟩
theorem get64 (v : Nat) (hv : v < 18446744073709551616) (g o n c : Nat) (w : World) (hn : 8 ≤ n) (h : SrcAt g o (Lib.beBytes 8 v) w) :
    Calls Tryf.prog 41 #[.agg #[], .slice (some ⟨g, o, none⟩) n c] w fun e w' => e = .returned (.int .u64 v) ∧ Below w.heap.size w w' := by
  have hl := beBytes_length 8 v
  have hb : Lib.beNat (Lib.beBytes 8 v) = v := Lib.beNat_beBytes 8 v (by omega)
  generalize Lib.beBytes 8 v = l at *
  match l, hl with
  | [b0, b1, b2, b3, b4, b5, b6, b7], _ =>
    refine (Tryf.binary_BE_Uint64 g o n c b0 b1 b2 b3 b4 b5 b6 b7 w hn (src_cell h 0 (by simp)) (src_cell h 1 (by simp)) (src_cell h 2 (by simp)) (src_cell h 3 (by simp)) (src_cell h 4 (by simp)) (src_cell h 5 (by simp)) (src_cell h 6 (by simp)) (src_cell h 7 (by simp))).mono ?_
    rintro e w' ⟨rfl, h⟩
    exact ⟨by rw [hb], h⟩

/-- the pieces of the 24 bytes -/
theorem SrcAt.left {g o : Nat} {a b : List UInt8} {w : World} (h : SrcAt g o (a ++ b) w) : SrcAt g o a w := by
  have := h.take a.length
  rwa [List.take_left' rfl] at this
theorem SrcAt.right {g o : Nat} {a b : List UInt8} {w : World} (h : SrcAt g o (a ++ b) w) {n : Nat} (hn : a.length = n) : SrcAt g (o + n) b w := by
  have := h.drop n
  rwa [List.drop_left' hn] at this

structure HdrAt (g : Nat) (H : Hdr) (w : World) : Prop where
  s : SrcAt g 0 H.bytes w
theorem HdrAt.p2 {g : Nat} {H : Hdr} {w : World} (h : HdrAt g H w) : SrcAt g 2 (Lib.beBytes 2 H.kl) w ∧ SrcAt g 6 (Lib.beBytes 2 H.f6) w ∧ SrcAt g 8 (Lib.beBytes 4 H.bl) w ∧ SrcAt g 12 (Lib.beBytes 4 H.oq) w ∧ SrcAt g 16 (Lib.beBytes 8 H.cas) w ∧
    w.cell? ⟨g, 0, none⟩ = some (.int .u8 ((UInt8.ofNat H.m).toNat : Nat)) ∧ w.cell? ⟨g, 1, none⟩ = some (.int .u8 ((UInt8.ofNat H.op).toNat : Nat)) ∧ w.cell? ⟨g, 4, none⟩ = some (.int .u8 ((UInt8.ofNat H.el).toNat : Nat)) ∧ w.cell? ⟨g, 5, none⟩ = some (.int .u8 ((UInt8.ofNat H.dt).toNat : Nat)) := by
  have hs := h.s
  unfold Hdr.bytes at hs
  have l2 : ∀ v, (Lib.beBytes 2 v).length = 2 := fun v => beBytes_length 2 v
  have l4 : ∀ v, (Lib.beBytes 4 v).length = 4 := fun v => beBytes_length 4 v
  have e8 := SrcAt.right hs (n := 16) (by simp [l2, l4])
  have t1 := SrcAt.left hs
  have e7 := SrcAt.right t1 (n := 12) (by simp [l2, l4])
  have t2 := SrcAt.left t1
  have e6 := SrcAt.right t2 (n := 8) (by simp [l2])
  have t3 := SrcAt.left t2
  have e5 := SrcAt.right t3 (n := 6) (by simp [l2])
  have t4 := SrcAt.left t3
  have e4 := SrcAt.right t4 (n := 4) (by simp [l2])
  have t5 := SrcAt.left t4
  have e3 := SrcAt.right t5 (n := 2) rfl
  have t6 := SrcAt.left t5
  rw [Nat.zero_add] at e3 e4 e5 e6 e7 e8
  exact ⟨e3, e5, e6, e7, e8, src_cell t6 0 (by simp), src_cell t6 1 (by simp), src_cell e4 0 (by simp), src_cell e4 1 (by simp)⟩

theorem HdrAt.below {g : Nat} {H : Hdr} {w w' : World} {B : Nat} (h : HdrAt g H w) (hb : Below B w w') (hg : g < B) : HdrAt g H w' := ⟨h.s.below hb hg⟩
theorem HdrAt.cells4 {g : Nat} {H : Hdr} {w : World} (h : HdrAt g H w) (hf : H.fits) : w.cell? ⟨g, 0, none⟩ = some (.int .u8 H.m) ∧ w.cell? ⟨g, 1, none⟩ = some (.int .u8 H.op) ∧ w.cell? ⟨g, 4, none⟩ = some (.int .u8 H.el) ∧ w.cell? ⟨g, 5, none⟩ = some (.int .u8 H.dt) := by
  obtain ⟨_, _, _, _, _, k0, k1, k4, k5⟩ := h.p2
  have e : ∀ n, n < 256 → (UInt8.ofNat n).toNat = n := fun n hn => by rw [UInt8.toNat_ofNat']; omega
  rw [e _ hf.m] at k0
  rw [e _ hf.op] at k1
  rw [e _ hf.el] at k4
  rw [e _ hf.dt] at k5
  exact ⟨k0, k1, k4, k5⟩

def Nine (r : Nat) (w : World) : Prop := ∃ a0 a1 a2 a3 a4 a5 a6 a7 a8 : Value, w.heap[r]? = some (.cells #[a0, a1, a2, a3, a4, a5, a6, a7, a8] 60 (0, 0))
/-- nine cells stored, one behind the other -/
def store9 (w : World) (r : Nat) (b0 b1 b2 b3 b4 b5 b6 b7 b8 : Value) : World := (((((((((w.setCell ⟨r, 0, none⟩ b0).setCell ⟨r, 1, none⟩ b1).setCell ⟨r, 2, none⟩ b2).setCell ⟨r, 3, none⟩ b3).setCell ⟨r, 4, none⟩ b4).setCell ⟨r, 5, none⟩ b5).setCell ⟨r, 6, none⟩ b6).setCell ⟨r, 7, none⟩ b7).setCell ⟨r, 8, none⟩ b8)
theorem store9_row {r : Nat} {w : World} (h : Nine r w) (b0 b1 b2 b3 b4 b5 b6 b7 b8 : Value) : (store9 w r b0 b1 b2 b3 b4 b5 b6 b7 b8).heap[r]? = some (.cells #[b0, b1, b2, b3, b4, b5, b6, b7, b8] 60 (0, 0)) := by
  obtain ⟨a0, a1, a2, a3, a4, a5, a6, a7, a8, h0⟩ := h
  unfold store9
  have h1 : (w.setCell ⟨r, 0, none⟩ b0).heap[r]? = some (.cells #[b0, a1, a2, a3, a4, a5, a6, a7, a8] 60 (0, 0)) := Lib.heap_setCell_same h0 (i := 0) b0
  generalize w.setCell ⟨r, 0, none⟩ b0 = w1 at *
  have h2 : (w1.setCell ⟨r, 1, none⟩ b1).heap[r]? = some (.cells #[b0, b1, a2, a3, a4, a5, a6, a7, a8] 60 (0, 0)) := Lib.heap_setCell_same h1 (i := 1) b1
  generalize w1.setCell ⟨r, 1, none⟩ b1 = w2 at *
  have h3 : (w2.setCell ⟨r, 2, none⟩ b2).heap[r]? = some (.cells #[b0, b1, b2, a3, a4, a5, a6, a7, a8] 60 (0, 0)) := Lib.heap_setCell_same h2 (i := 2) b2
  generalize w2.setCell ⟨r, 2, none⟩ b2 = w3 at *
  have h4 : (w3.setCell ⟨r, 3, none⟩ b3).heap[r]? = some (.cells #[b0, b1, b2, b3, a4, a5, a6, a7, a8] 60 (0, 0)) := Lib.heap_setCell_same h3 (i := 3) b3
  generalize w3.setCell ⟨r, 3, none⟩ b3 = w4 at *
  have h5 : (w4.setCell ⟨r, 4, none⟩ b4).heap[r]? = some (.cells #[b0, b1, b2, b3, b4, a5, a6, a7, a8] 60 (0, 0)) := Lib.heap_setCell_same h4 (i := 4) b4
  generalize w4.setCell ⟨r, 4, none⟩ b4 = w5 at *
  have h6 : (w5.setCell ⟨r, 5, none⟩ b5).heap[r]? = some (.cells #[b0, b1, b2, b3, b4, b5, a6, a7, a8] 60 (0, 0)) := Lib.heap_setCell_same h5 (i := 5) b5
  generalize w5.setCell ⟨r, 5, none⟩ b5 = w6 at *
  have h7 : (w6.setCell ⟨r, 6, none⟩ b6).heap[r]? = some (.cells #[b0, b1, b2, b3, b4, b5, b6, a7, a8] 60 (0, 0)) := Lib.heap_setCell_same h6 (i := 6) b6
  generalize w6.setCell ⟨r, 6, none⟩ b6 = w7 at *
  have h8 : (w7.setCell ⟨r, 7, none⟩ b7).heap[r]? = some (.cells #[b0, b1, b2, b3, b4, b5, b6, b7, a8] 60 (0, 0)) := Lib.heap_setCell_same h7 (i := 7) b7
  generalize w7.setCell ⟨r, 7, none⟩ b7 = w8 at *
  have h9 : (w8.setCell ⟨r, 8, none⟩ b8).heap[r]? = some (.cells #[b0, b1, b2, b3, b4, b5, b6, b7, b8] 60 (0, 0)) := Lib.heap_setCell_same h8 (i := 8) b8
  exact h9
theorem store9_below {B r : Nat} {a w : World} (h : Below B a w) (hr : B ≤ r) (b0 b1 b2 b3 b4 b5 b6 b7 b8 : Value) : Below B a (store9 w r b0 b1 b2 b3 b4 b5 b6 b7 b8) :=
  ((((((((h.setCell (p := ⟨r, 0, none⟩) hr b0).setCell (p := ⟨r, 1, none⟩) hr b1).setCell (p := ⟨r, 2, none⟩) hr b2).setCell (p := ⟨r, 3, none⟩) hr b3).setCell (p := ⟨r, 4, none⟩) hr b4).setCell (p := ⟨r, 5, none⟩) hr b5).setCell (p := ⟨r, 6, none⟩) hr b6).setCell (p := ⟨r, 7, none⟩) hr b7).setCell (p := ⟨r, 8, none⟩) hr b8

/-- what is carried through parseHeader's one statement: the bytes, the world as it began, and the result's block -/
def Carry (g : Nat) (H : Hdr) (w w' : World) : Prop := HdrAt g H w' ∧ Below w.heap.size w w' ∧ Nine w.heap.size w'
theorem Carry.next {g : Nat} {H : Hdr} {w a b : World} (h : Carry g H w a) (hb : Below a.heap.size a b) (hg : g < w.heap.size) : Carry g H w b := by
  refine ⟨h.1.below hb (Nat.lt_of_lt_of_le hg h.2.1.size), h.2.1.trans (hb.mono h.2.1.size), ?_⟩
  obtain ⟨a0, a1, a2, a3, a4, a5, a6, a7, a8, h0⟩ := h.2.2
  have hlt : w.heap.size < a.heap.size := (Array.getElem?_eq_some_iff.mp h0).1
  exact ⟨a0, a1, a2, a3, a4, a5, a6, a7, a8, by rw [hb.block _ hlt]; exact h0⟩
theorem Carry.stored {g : Nat} {H : Hdr} {w a : World} (h : Carry g H w a) (hf : H.fits) (hg : g < w.heap.size) (b0 b1 b2 b3 b4 b5 b6 b7 b8 : Value) :
    (store9 a w.heap.size b0 b1 b2 b3 b4 b5 b6 b7 b8).cell? ⟨g, 0, none⟩ = some (.int .u8 H.m) ∧ (store9 a w.heap.size b0 b1 b2 b3 b4 b5 b6 b7 b8).cell? ⟨g, 1, none⟩ = some (.int .u8 H.op) ∧ (store9 a w.heap.size b0 b1 b2 b3 b4 b5 b6 b7 b8).cell? ⟨g, 4, none⟩ = some (.int .u8 H.el) ∧ (store9 a w.heap.size b0 b1 b2 b3 b4 b5 b6 b7 b8).cell? ⟨g, 5, none⟩ = some (.int .u8 H.dt) ∧ Hid (Carry g H w (store9 a w.heap.size b0 b1 b2 b3 b4 b5 b6 b7 b8)) := by
  have hb := store9_below (Below.refl w.heap.size a) (Nat.le_refl _) b0 b1 b2 b3 b4 b5 b6 b7 b8
  have C : Carry g H w (store9 a w.heap.size b0 b1 b2 b3 b4 b5 b6 b7 b8) := ⟨h.1.below hb hg, h.2.1.trans hb, b0, b1, b2, b3, b4, b5, b6, b7, b8, store9_row h.2.2 b0 b1 b2 b3 b4 b5 b6 b7 b8⟩
  obtain ⟨k0, k1, k4, k5⟩ := C.1.cells4 hf
  exact ⟨k0, k1, k4, k5, Lib.hid C⟩
end Go.Proofs.Qxb6615679aFmt
