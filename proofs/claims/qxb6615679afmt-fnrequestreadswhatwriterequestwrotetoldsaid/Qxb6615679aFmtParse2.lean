/-
  parseHeader over 24 bytes that a header's put has laid.
-/
import Derived.Test.Qxb6615679aFmtParse
namespace Go.Proofs.Qxb6615679aFmt
open Go.RowKit

structure After (g : Nat) (H : Hdr) (w w' : World) : Prop where
  c : Hid (Carry g H w w')
  k0 : w'.cell? ⟨g, 0, none⟩ = some (.int .u8 H.m)
  k1 : w'.cell? ⟨g, 1, none⟩ = some (.int .u8 H.op)
  k4 : w'.cell? ⟨g, 4, none⟩ = some (.int .u8 H.el)
  k5 : w'.cell? ⟨g, 5, none⟩ = some (.int .u8 H.dt)
theorem Carry.after {g : Nat} {H : Hdr} {w a b : World} (h : Carry g H w a) (hf : H.fits) (hg : g < w.heap.size) (hb : Below a.heap.size a b) : After g H w b := by
  have C := h.next hb hg
  obtain ⟨k0, k1, k4, k5⟩ := C.1.cells4 hf
  exact ⟨Lib.hid C, k0, k1, k4, k5⟩
def Hdr.at16 (H : Hdr) (o : Nat) : Nat := if o = 2 then H.kl else H.f6
def Hdr.at32 (H : Hdr) (o : Nat) : Nat := if o = 8 then H.bl else H.oq
theorem hdr16 {g : Nat} {H : Hdr} {w W : World} (h : Hid (Carry g H w W)) (hf : Hid H.fits) (hg : Hid (g < w.heap.size)) (o n c : Nat) (hn : 2 ≤ n) (ho : o = 2 ∨ o = 6) :
    Calls Tryf.prog 39 #[.agg #[], .slice (some ⟨g, o, none⟩) n c] W fun e w' => e = .returned (.int .u16 (H.at16 o)) ∧ After g H w w' := by
  have hp := h.out.1.p2
  rcases ho with rfl | rfl
  · refine (get16 H.kl hf.out.kl g 2 n c W hn hp.1).mono ?_
    rintro e w' ⟨rfl, hb⟩
    exact ⟨rfl, h.out.after hf.out hg.out hb⟩
  · refine (get16 H.f6 hf.out.f6 g 6 n c W hn hp.2.1).mono ?_
    rintro e w' ⟨rfl, hb⟩
    exact ⟨rfl, h.out.after hf.out hg.out hb⟩
theorem hdr32 {g : Nat} {H : Hdr} {w W : World} (h : Hid (Carry g H w W)) (hf : Hid H.fits) (hg : Hid (g < w.heap.size)) (o n c : Nat) (hn : 4 ≤ n) (ho : o = 8 ∨ o = 12) :
    Calls Tryf.prog 40 #[.agg #[], .slice (some ⟨g, o, none⟩) n c] W fun e w' => e = .returned (.int .u32 (H.at32 o)) ∧ After g H w w' := by
  have hp := h.out.1.p2
  rcases ho with rfl | rfl
  · refine (get32 H.bl hf.out.bl g 8 n c W hn hp.2.2.1).mono ?_
    rintro e w' ⟨rfl, hb⟩
    exact ⟨rfl, h.out.after hf.out hg.out hb⟩
  · refine (get32 H.oq hf.out.oq g 12 n c W hn hp.2.2.2.1).mono ?_
    rintro e w' ⟨rfl, hb⟩
    exact ⟨rfl, h.out.after hf.out hg.out hb⟩
theorem hdr64 {g : Nat} {H : Hdr} {w W : World} (h : Hid (Carry g H w W)) (hf : Hid H.fits) (hg : Hid (g < w.heap.size)) (n c : Nat) (hn : 8 ≤ n) :
    Calls Tryf.prog 41 #[.agg #[], .slice (some ⟨g, 16, none⟩) n c] W fun e w' => e = .returned (.int .u64 H.cas) ∧ After g H w w' := by
  refine (get64 H.cas hf.out.cas g 16 n c W hn h.out.1.p2.2.2.2.2.1).mono ?_
  rintro e w' ⟨rfl, hb⟩
  exact ⟨rfl, h.out.after hf.out hg.out hb⟩

set_option maxHeartbeats 4000000 in
set_option maxRecDepth 100000 in
theorem parse_any (H : Hdr) (hf : H.fits) (g c : Nat) (w : World) (hs : HdrAt g H w) (hg : g < w.heap.size) (hc : 24 ≤ c) :
    Calls Tryf.prog 27 #[.slice (some ⟨g, 0, none⟩) 24 c] w fun e w' => e = .returned (.agg H.cells) ∧ Below w.heap.size w w' := by
  have n2 : ¬ c = 2 := by omega
  have n6 : ¬ c = 6 := by omega
  have n8 : ¬ c = 8 := by omega
  have n12 : ¬ c = 12 := by omega
  have n16 : ¬ c = 16 := by omega
  obtain ⟨W1, hW1⟩ : ∃ W1, W1 = w.alloc (.cells #[.int .u8 0, .int .u8 0, .int .u16 0, .int .u8 0, .int .u8 0, .int .u16 0, .int .u32 0, .int .u32 0, .int .u64 0] 60) := ⟨_, rfl⟩
  have b1 : Below w.heap.size w W1 := by rw [hW1]; exact (Below.refl _ _).alloc (Nat.le_refl _) _
  have C1 : Hid (Carry g H w W1.drew) := ⟨(hs.below b1 hg).below (Below.refl w.heap.size W1).drew hg, b1.drew, by rw [hW1]; exact ⟨_, _, _, _, _, _, _, _, _, Array.getElem?_push_size⟩⟩
  have HF := Lib.hid hf
  have HG := Lib.hid hg
  obtain ⟨a0, a1, a4, a5⟩ := C1.out.1.cells4 hf
  have HW1 := Lib.hid hW1
  clear hs hf hW1 b1
  go_enter Tryf.func27, Tryf.ntmps27
  go_wp2_with fail
  rw [← HW1.out]
  go_region_held3 (fun w' => w'.cell? ⟨g, 0, none⟩ = some (.int .u8 H.m) ∧ w'.cell? ⟨g, 1, none⟩ = some (.int .u8 H.op) ∧ w'.cell? ⟨g, 4, none⟩ = some (.int .u8 H.el) ∧ w'.cell? ⟨g, 5, none⟩ = some (.int .u8 H.dt) ∧ Hid (Carry g H w w')) (first | (refine ⟨?_, ?_, ?_, ?_, ?_⟩ <;> (with_reducible assumption)) | exact (Hid.out ‹Hid (Carry g H w wk)›).stored HF.out HG.out _ _ _ _ _ _ _ _ _)
    (first
      | (go_at_call 39
         refine (hdr16 ‹Hid (Carry g H w _)› HF HG _ _ _ (by omega) (by omega)).mono ?_
         rintro e wk ⟨rfl, A⟩
         have CC := A.c
         have k0 := A.k0
         have k1 := A.k1
         have k4 := A.k4
         have k5 := A.k5
         clear A)
      | (go_at_call 40
         refine (hdr32 ‹Hid (Carry g H w _)› HF HG _ _ _ (by omega) (by omega)).mono ?_
         rintro e wk ⟨rfl, A⟩
         have CC := A.c
         have k0 := A.k0
         have k1 := A.k1
         have k4 := A.k4
         have k5 := A.k5
         clear A)
      | (go_at_call 41
         refine (hdr64 ‹Hid (Carry g H w _)› HF HG _ _ (by omega)).mono ?_
         rintro e wk ⟨rfl, A⟩
         obtain ⟨a0, a1, a2, a3, a4, a5, a6, a7, a8, hN⟩ := A.c.out.2.2
         have r0 : wk.cell? ⟨w.heap.size, 0, none⟩ = some a0 := by rw [Lib.cell_of_heap hN]; rfl
         have f0 : wk.frozen? ⟨w.heap.size, 0, none⟩ = false := Lib.frozen_of_heap hN 0
         have r1 : wk.cell? ⟨w.heap.size, 1, none⟩ = some a1 := by rw [Lib.cell_of_heap hN]; rfl
         have f1 : wk.frozen? ⟨w.heap.size, 1, none⟩ = false := Lib.frozen_of_heap hN 1
         have r2 : wk.cell? ⟨w.heap.size, 2, none⟩ = some a2 := by rw [Lib.cell_of_heap hN]; rfl
         have f2 : wk.frozen? ⟨w.heap.size, 2, none⟩ = false := Lib.frozen_of_heap hN 2
         have r3 : wk.cell? ⟨w.heap.size, 3, none⟩ = some a3 := by rw [Lib.cell_of_heap hN]; rfl
         have f3 : wk.frozen? ⟨w.heap.size, 3, none⟩ = false := Lib.frozen_of_heap hN 3
         have r4 : wk.cell? ⟨w.heap.size, 4, none⟩ = some a4 := by rw [Lib.cell_of_heap hN]; rfl
         have f4 : wk.frozen? ⟨w.heap.size, 4, none⟩ = false := Lib.frozen_of_heap hN 4
         have r5 : wk.cell? ⟨w.heap.size, 5, none⟩ = some a5 := by rw [Lib.cell_of_heap hN]; rfl
         have f5 : wk.frozen? ⟨w.heap.size, 5, none⟩ = false := Lib.frozen_of_heap hN 5
         have r6 : wk.cell? ⟨w.heap.size, 6, none⟩ = some a6 := by rw [Lib.cell_of_heap hN]; rfl
         have f6 : wk.frozen? ⟨w.heap.size, 6, none⟩ = false := Lib.frozen_of_heap hN 6
         have r7 : wk.cell? ⟨w.heap.size, 7, none⟩ = some a7 := by rw [Lib.cell_of_heap hN]; rfl
         have f7 : wk.frozen? ⟨w.heap.size, 7, none⟩ = false := Lib.frozen_of_heap hN 7
         have r8 : wk.cell? ⟨w.heap.size, 8, none⟩ = some a8 := by rw [Lib.cell_of_heap hN]; rfl
         have f8 : wk.frozen? ⟨w.heap.size, 8, none⟩ = false := Lib.frozen_of_heap hN 8
         have CC := A.c
         have k0 := A.k0
         have k1 := A.k1
         have k4 := A.k4
         have k5 := A.k5
         clear A hN))
  generalize hW : World.setCell _ _ _ = W
  have hrow : W.heap[w.heap.size]? = some (.cells H.cells 60 (0, 0)) := by rw [← hW]; exact store9_row CC.out.2.2 _ _ _ _ _ _ _ _ _
  have hbel : Below w.heap.size w W := by rw [← hW]; exact store9_below CC.out.2.1 (Nat.le_refl _) _ _ _ _ _ _ _ _ _
  clear hW
  have q0 : W.cell? ⟨w.heap.size, 0, none⟩ = some (.int .u8 H.m) := by rw [Lib.cell_of_heap hrow]; rfl
  have q1 : W.cell? ⟨w.heap.size, 1, none⟩ = some (.int .u8 H.op) := by rw [Lib.cell_of_heap hrow]; rfl
  have q2 : W.cell? ⟨w.heap.size, 2, none⟩ = some (.int .u16 H.kl) := by rw [Lib.cell_of_heap hrow]; rfl
  have q3 : W.cell? ⟨w.heap.size, 3, none⟩ = some (.int .u8 H.el) := by rw [Lib.cell_of_heap hrow]; rfl
  have q4 : W.cell? ⟨w.heap.size, 4, none⟩ = some (.int .u8 H.dt) := by rw [Lib.cell_of_heap hrow]; rfl
  have q5 : W.cell? ⟨w.heap.size, 5, none⟩ = some (.int .u16 H.f6) := by rw [Lib.cell_of_heap hrow]; rfl
  have q6 : W.cell? ⟨w.heap.size, 6, none⟩ = some (.int .u32 H.bl) := by rw [Lib.cell_of_heap hrow]; rfl
  have q7 : W.cell? ⟨w.heap.size, 7, none⟩ = some (.int .u32 H.oq) := by rw [Lib.cell_of_heap hrow]; rfl
  have q8 : W.cell? ⟨w.heap.size, 8, none⟩ = some (.int .u64 H.cas) := by rw [Lib.cell_of_heap hrow]; rfl
  go_wp2_with fail
  refine bodyPost_ret (v := .agg H.cells) (by simp [results, Tryf.results27, go_sem, q0, q1, q2, q3, q4, q5, q6, q7, q8, Hdr.cells]) rfl ⟨rfl, hbel⟩
end Go.Proofs.Qxb6615679aFmt
