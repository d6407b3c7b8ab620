/-
  writePacket over a fresh writer whose buffer has no room for the packet.
-/
import Derived.Test.Qxb6615679aFmtPacket
namespace Go.Proofs.Qxb6615679aFmt
open Go.RowKit

/-- Write of a slice that lies below the writer -/
theorem write_src (Z bx bb bw N B : Nat) (out pend : List UInt8) (v : Value) (l : List UInt8) (w : World) (h : WrIs Z bx bb bw N out pend w) (hZ : Z ≤ w.heap.size) (hs : SrcV B v l w) (hx : B ≤ bx) (hb : B ≤ bb) (hw : B ≤ bw)
    (hlim : out.length + pend.length + l.length ≤ 140737488355328) :
    Calls Tryf.prog 46 #[.pointer (some ⟨bw, 0, none⟩), v] w fun e w' => e = .returned (.tuple #[.int .i64 l.length, .nilIface]) ∧
      (∃ out' pend', out' ++ pend' = out ++ pend ++ l ∧ WrIs Z bx bb bw N out' pend' w') ∧ Fr Z [bx, bb, bw] w w' := by
  obtain ⟨ao, c, rfl, h1, h2, h3⟩ := hs.ex
  rcases h3 with ⟨rfl, rfl, rfl⟩ | ⟨sb, o, rfl, hsb, hsrc⟩
  · refine (write_empty Z bx bb bw N out pend none 0 w h).mono ?_
    rintro e w' ⟨rfl, h', F'⟩
    exact ⟨rfl, ⟨out, pend, by rw [List.append_nil], h'⟩, F'⟩
  · have := h.lx
    exact write_any Z bx bb bw N out pend sb o c l w h hZ (by omega) (by simp; omega) h1 h2 hsrc hlim

/-- the zero value of [24]byte -/
def zeros24 : List Value := [.int .u8 0, .int .u8 0, .int .u8 0, .int .u8 0, .int .u8 0, .int .u8 0, .int .u8 0, .int .u8 0, .int .u8 0, .int .u8 0, .int .u8 0, .int .u8 0, .int .u8 0, .int .u8 0, .int .u8 0, .int .u8 0, .int .u8 0, .int .u8 0, .int .u8 0, .int .u8 0, .int .u8 0, .int .u8 0, .int .u8 0, .int .u8 0]

set_option maxHeartbeats 4000000 in
set_option maxRecDepth 100000 in
theorem packet_loop (w0 : World) (N op dt vb oq cas B : Nat) (ev kv vv : Value) (le lk lv : List UInt8) (w : World) (hfr : Fresh w0 N w) (h0 : 0 < N) (h1 : N ≤ 65536) (hB : B ≤ w0.heap.size)
    (se : SrcV B ev le w) (sk : SrcV B kv lk w) (sv : SrcV B vv lv w) (he : le.length ≤ 255) (hk : lk.length ≤ 250) (hv : lv.length ≤ 1048576) (hroom : N < 24 + (le.length + lk.length + lv.length))
    (hop : op < 256) (hdt : dt < 256) (hvb : vb < 65536) (hoq : oq < 4294967296) (hcas : cas < 18446744073709551616) :
    Calls Tryf.prog 29 #[.pointer (some ⟨w0.heap.size + 2, 0, none⟩), .agg #[.int .u8 128, .int .u8 op, .int .u16 0, .int .u8 0, .int .u8 dt, .int .u16 vb, .int .u32 0, .int .u32 oq, .int .u64 cas], ev, kv, vv] w fun e w' => e = .returned .nilIface ∧
      ∃ Z out' pend', out' ++ pend' = (outHdr op dt vb oq cas le.length lk.length lv.length).bytes ++ le ++ lk ++ lv ∧ WrIs Z w0.heap.size (w0.heap.size + 1) (w0.heap.size + 2) N out' pend' w' ∧ Z ≤ w'.heap.size ∧ w0.heap.size + 3 ≤ Z ∧ Below w0.heap.size w w' := by
  obtain ⟨ae, ce, rfl, e1, e2, e3⟩ := se.ex
  obtain ⟨ak, ck, rfl, k1, k2, k3⟩ := sk.ex
  obtain ⟨av, cv, rfl, v1, v2, v3⟩ := sv.ex
  have he' : (le.length : Int) ≤ 255 := by omega
  have hk' : (lk.length : Int) ≤ 250 := by omega
  have hv' : (lv.length : Int) ≤ 1048576 := by omega
  have HE := Lib.hid e3
  have HK := Lib.hid k3
  have HV := Lib.hid v3
  clear se sk sv e3 k3 v3
  obtain ⟨hh, hhh⟩ : ∃ hh, hh = w.heap.size := ⟨_, rfl⟩
  obtain ⟨W1, hW1⟩ : ∃ W1, W1 = w.alloc (.cells #[.int .u8 128, .int .u8 op, .int .u16 lk.length, .int .u8 le.length, .int .u8 dt, .int .u16 vb, .int .u32 ((le.length : Int) + (lk.length : Int) + (lv.length : Int)), .int .u32 oq, .int .u64 cas] 60) := ⟨_, rfl⟩
  obtain ⟨H, hH⟩ : ∃ H, H = outHdr op dt vb oq cas le.length lk.length lv.length := ⟨_, rfl⟩
  have hfits : H.fits := by
    rw [hH]
    exact ⟨(by decide : 128 < 256), hop, by show lk.length < _; omega, by show le.length < _; omega, hdt, hvb, by show le.length + lk.length + lv.length < _; omega, hoq, hcas⟩
  have hfr1 : Fresh w0 N W1 := by rw [hW1]; exact hfr.alloc _
  have hcells : W1.heap[hh]? = some (.cells H.cells 60 (0, 0)) := by
    rw [hW1, hhh]
    have h := heap_alloc_new w (.cells #[.int .u8 128, .int .u8 op, .int .u16 lk.length, .int .u8 le.length, .int .u8 dt, .int .u16 vb, .int .u32 ((le.length : Int) + (lk.length : Int) + (lv.length : Int)), .int .u32 oq, .int .u64 cas] 60)
    rw [h, hH]
    rfl
  have hz1 : W1.heap.size = hh + 1 := by rw [hW1, World.size_alloc, hhh]
  have hb1 : Below hh w W1 := by rw [hW1, hhh]; exact (Below.refl _ _).alloc (Nat.le_refl _) _
  have h3 : w0.heap.size + 3 ≤ hh := by rw [hhh]; exact hfr.2
  have q6 : W1.cell? ⟨hh, 6, none⟩ = some (.int .u32 ((le.length : Int) + (lk.length : Int) + (lv.length : Int))) := by
    rw [Lib.cell_of_heap hcells, hH]
    show some (Value.int .u32 ((le.length + lk.length + lv.length : Nat) : Int)) = _
    rw [show ((le.length + lk.length + lv.length : Nat) : Int) = (le.length : Int) + (lk.length : Int) + (lv.length : Int) by omega]
  have hwr := hfr1.wr (hh + 1) (by omega) h0 h1
  have hroom' : (N : Int) < 24 + ((le.length : Int) + (lk.length : Int) + (lv.length : Int)) := by omega
  have hw1 : IntKind.i64.wrap ((le.length : Int) + (lk.length : Int) + (lv.length : Int)) = (le.length : Int) + (lk.length : Int) + (lv.length : Int) := by rw [IntKind.wrap_i64]; omega
  have hw2 : IntKind.i64.wrap (24 + ((le.length : Int) + (lk.length : Int) + (lv.length : Int))) = 24 + ((le.length : Int) + (lk.length : Int) + (lv.length : Int)) := by rw [IntKind.wrap_i64]; omega
  have A1 := Lib.hid (avail0 _ _ _ _ _ _ W1.drew hwr.drew)
  have HH := Lib.hid hhh
  have HW1 := Lib.hid hW1
  have HHd := Lib.hid hH
  have HC := Lib.hid hcells
  have HF := Lib.hid hfits
  have HZ := Lib.hid hz1
  have HB := Lib.hid hb1
  have HFR := Lib.hid hfr1
  clear hhh hW1 hH hcells hwr hfits hz1 hb1 hfr1 hfr
  go_enter Tryf.func29, Tryf.ntmps29
  go_wp2_with fail
  rw [← HW1.out, ← HH.out]
  go_region_held3 (fun w' => w'.cell? ⟨hh, 6, none⟩ = some (.int .u32 ((le.length : Int) + (lk.length : Int) + (lv.length : Int)))) (go_keep) (first | (go_at_call 43; refine A1.out.mono ?_; rintro e w2 ⟨rfl, nq, rfl⟩))
  clear q6 A1
  go_wp2_with fail
  obtain ⟨W2, hW2⟩ : ∃ W2, W2 = (W1.drewN (1 + nq)).alloc (.cells #[.int .u8 0, .int .u8 0, .int .u8 0, .int .u8 0, .int .u8 0, .int .u8 0, .int .u8 0, .int .u8 0, .int .u8 0, .int .u8 0, .int .u8 0, .int .u8 0, .int .u8 0, .int .u8 0, .int .u8 0, .int .u8 0, .int .u8 0, .int .u8 0, .int .u8 0, .int .u8 0, .int .u8 0, .int .u8 0, .int .u8 0, .int .u8 0] 95) := ⟨_, rfl⟩
  rw [← hW2]
  have hrow : W2.heap[W1.heap.size]? = some (.cells zeros24.toArray 95 (0, 0)) := by
    rw [hW2]
    exact heap_alloc_new (W1.drewN (1 + nq)) _
  have hW2b : Below W1.heap.size W1 W2 := by rw [hW2]; exact (below_drewN' W1.heap.size W1 (1 + nq)).alloc (Nat.le_refl W1.heap.size) _
  have hW2s : W2.heap.size = hh + 2 := by
    rw [hW2, World.size_alloc]
    show W1.heap.size + 1 = hh + 2
    rw [HZ.out]
  have hP := put_any H HF.out hh W1.heap.size 24 95 zeros24 W2 (by rw [hW2b.block hh (by rw [HZ.out]; omega)]; exact HC.out) hrow (by decide) (by omega) (by rw [HZ.out]; omega)
  refine hP.mono ?_
  clear hP hrow
  rintro e w4 ⟨rfl, s4, g4⟩
  have hpz : putL zeros24 0 (Lib.byteCells H.bytes) = Lib.byteCells H.bytes := by
    unfold putL
    rw [byteCells_length, H.bytes_length]
    simp [zeros24]
  rw [hpz] at s4
  have b4 : Below (hh + 1) w4 w4 := Below.refl _ _
  have B4 : Below (hh + 1) W1 w4 := (hW2b.mono (by rw [HZ.out]; omega)).trans ⟨g4.os, g4.tape, g4.output, g4.size, fun k hk => g4.block k (by rw [hW2s]; omega) (by rw [HZ.out]; simp; omega)⟩
  have z4 : hh + 2 ≤ w4.heap.size := by have := g4.size; omega
  have fr4 : Fresh w0 N w4 := ⟨HFR.out.1.trans (B4.mono (by omega)), by omega⟩
  have wr4 := fr4.wr (hh + 2) (by omega) h0 h1
  have src4 : SrcAt W1.heap.size 0 H.bytes w4 := SrcAt.of_row s4 (by
    show (Lib.byteCells H.bytes).take H.bytes.length = _
    rw [← byteCells_length]
    exact List.take_length)
  have hWa := write_any (hh + 2) w0.heap.size (w0.heap.size + 1) (w0.heap.size + 2) N [] [] W1.heap.size 0 24 H.bytes w4 wr4 z4 (by rw [HZ.out]; omega) (by rw [HZ.out]; simp; omega) (by rw [H.bytes_length]; omega) (by omega) src4 (by rw [H.bytes_length]; simp)
  rw [H.bytes_length] at hWa
  have HWa := Lib.hid hWa
  have BW : Below B w w4 := (HB.out.mono (by omega)).trans (B4.mono (by omega))
  have HBW := Lib.hid BW
  have HZ4 := Lib.hid z4
  have HB4 := Lib.hid B4
  clear hWa s4 g4 b4 B4 fr4 wr4 src4 z4 hW2 hW2b hW2s BW hpz
  go_wp2_with fail
  refine HWa.out.mono ?_
  rintro e w5 ⟨rfl, ⟨o5, p5, s5, h5⟩, F5⟩
  have bx5 : Below B w w5 := HBW.out.trans (F5.to_below (by omega) (by simp; omega))
  have l5 : o5.length + p5.length = 24 := by
    have := congrArg List.length s5
    rw [List.length_append] at this
    rw [this]
    simp [H.bytes_length]
  have hWe := write_src (hh + 2) w0.heap.size (w0.heap.size + 1) (w0.heap.size + 2) N B o5 p5 (.slice ae le.length ce) le w5 h5 (Nat.le_trans HZ4.out F5.size) (SrcV.below ⟨_, _, rfl, e1, e2, HE.out⟩ bx5 (Nat.le_refl _)) (by omega) (by omega) (by omega) (by omega)
  have HWe := Lib.hid hWe
  have HX5 := Lib.hid bx5
  have HF5 := Lib.hid F5
  have HS5 := Lib.hid s5
  have HL5 := Lib.hid l5
  clear hWe bx5 F5 s5 h5 l5 HWa
  go_wp2_with fail
  refine HWe.out.mono ?_
  rintro e w6 ⟨rfl, ⟨o6, p6, s6, h6⟩, F6⟩
  have F6' := HF5.out.trans F6
  have bx6 : Below B w w6 := HBW.out.trans (F6'.to_below (by omega) (by simp; omega))
  have l6 : o6.length + p6.length = 24 + le.length := by
    have := congrArg List.length s6
    rw [List.length_append, List.length_append, List.length_append] at this
    rw [this, HL5.out]
  have hWk := write_src (hh + 2) w0.heap.size (w0.heap.size + 1) (w0.heap.size + 2) N B o6 p6 (.slice ak lk.length ck) lk w6 h6 (Nat.le_trans HZ4.out F6'.size) (SrcV.below ⟨_, _, rfl, k1, k2, HK.out⟩ bx6 (Nat.le_refl _)) (by omega) (by omega) (by omega) (by omega)
  have HWk := Lib.hid hWk
  have HF6 := Lib.hid F6'
  have HS6 := Lib.hid s6
  have HL6 := Lib.hid l6
  clear hWk bx6 F6 F6' s6 h6 l6 HWe
  go_wp2_with fail
  refine HWk.out.mono ?_
  rintro e w7 ⟨rfl, ⟨o7, p7, s7, h7⟩, F7⟩
  have F7' := HF6.out.trans F7
  have bx7 : Below B w w7 := HBW.out.trans (F7'.to_below (by omega) (by simp; omega))
  have l7 : o7.length + p7.length = 24 + le.length + lk.length := by
    have := congrArg List.length s7
    rw [List.length_append, List.length_append, List.length_append] at this
    rw [this, HL6.out]
  have hWv := write_src (hh + 2) w0.heap.size (w0.heap.size + 1) (w0.heap.size + 2) N B o7 p7 (.slice av lv.length cv) lv w7 h7 (Nat.le_trans HZ4.out F7'.size) (SrcV.below ⟨_, _, rfl, v1, v2, HV.out⟩ bx7 (Nat.le_refl _)) (by omega) (by omega) (by omega) (by omega)
  have HWv := Lib.hid hWv
  have HF7 := Lib.hid F7'
  have HS7 := Lib.hid s7
  clear hWv bx7 F7 F7' s7 h7 l7 HWk
  go_wp2_with fail
  refine HWv.out.mono ?_
  rintro e w8 ⟨rfl, ⟨o8, p8, s8, h8⟩, F8⟩
  have F8' := HF7.out.trans F8
  go_wp2
  go_ret
  refine ⟨rfl, hh + 2, o8, p8, ?_, h8, Nat.le_trans HZ4.out F8'.size, by omega, ?_⟩
  · rw [s8, HS7.out, HS6.out, HS5.out, HHd.out]
    simp
  · exact (HB.out.mono (by omega)).trans ((HB4.out.mono (by omega)).trans (F8'.to_below (by omega) (by simp)))
end Go.Proofs.Qxb6615679aFmt
