/-
  zzWriteRequest: what reached the stream, and whether an error came back.
-/
import Derived.Test.Qxb6615679aFmtRequest
namespace Go.Proofs.Qxb6615679aFmt
open Go.RowKit Go.Extern.Stop Go.Stop

set_option maxHeartbeats 2000000 in
set_option maxRecDepth 100000 in
theorem zzwr_ok (size : Int) (rq op dt vb oq cas B : Nat) (ev kv vv : Value) (le lk lv : List UInt8) (w : World) (hs : size ≤ 65536) (hB : B ≤ w.heap.size)
    (hrq : w.heap[rq]? = some (.cells (reqCells op dt vb oq cas ev kv vv) 30 (0, 0))) (hlt : rq < w.heap.size)
    (se : SrcV B ev le w) (sk : SrcV B kv lk w) (sv : SrcV B vv lv w) (he : le.length ≤ 255) (hk : lk.length ≤ 250) (hv : lv.length ≤ 1048576)
    (hop : op < 256) (hdt : dt < 256) (hvb : vb < 65536) (hoq : oq < 4294967296) (hcas : cas < 18446744073709551616) :
    Calls Tryf.prog 10 #[.int .i64 size, .pointer (some ⟨rq, 0, none⟩)] w fun e w' => ∃ v, e = .returned (.tuple #[v, .bool false]) ∧ OutIs v (packet op dt vb oq cas le lk lv) w' ∧ Below w.heap.size w w' := by
  obtain ⟨hN0, hN1⟩ := size_bounds size hs
  obtain ⟨N, hN⟩ : ∃ N, N = sizeOfWriter size := ⟨_, rfl⟩
  rw [← hN] at hN0 hN1
  have hnew := new_any size w hs
  rw [← hN] at hnew
  have hb := newWorld_below N w
  have hfr : Fresh w N (newWorld N w) := ⟨Below.refl _ _, by rw [newWorld_size]; exact Nat.le_refl _⟩
  have hR := request_ok w N rq op dt vb oq cas B ev kv vv le lk lv (newWorld N w) hfr hN0 hN1 hB (by rw [hb.block rq hlt]; exact hrq) hlt (se.below hb hB) (sk.below hb hB) (sv.below hb hB) he hk hv hop hdt hvb hoq hcas
  have HNew := Lib.hid hnew
  have HR := Lib.hid hR
  have HB := Lib.hid hb
  have hl : (packet op dt vb oq cas le lk lv).length ≤ 2097152 := by
    unfold packet
    rw [List.length_append, List.length_append, List.length_append, Hdr.bytes_length]
    omega
  have HL := Lib.hid hl
  obtain ⟨W0, hW0⟩ : ∃ W0, W0 = newWorld N w := ⟨_, rfl⟩
  rw [← hW0] at HNew HR HB
  clear hnew hR hb hfr hN hW0 hl hrq se sk sv
  go_enter Tryf.func10, Tryf.ntmps10
  go_wp2_with fail
  refine HNew.out.mono ?_
  rintro e w1 ⟨rfl, rfl⟩
  go_wp2_with fail
  refine HR.out.mono ?_
  rintro e w2 ⟨rfl, ⟨Z, o', p', k1, k2, k3, k4⟩, hb2⟩
  have hfl := flushed Z w.heap.size (w.heap.size + 1) (w.heap.size + 2) N o' p' w2.drew k2.drew k3 (by
    have h := congrArg List.length k1
    rw [List.length_append] at h
    have := HL.out
    omega)
  rw [k1] at hfl
  have HFl := Lib.hid hfl
  have HB2 := Lib.hid hb2
  have K4 := Lib.hid k4
  clear hfl hb2 k1 k2 k3 k4
  go_wp2_with fail
  go_region_held3 (fun _ => True) (trivial) (first | (go_at_call 17; refine HFl.out.mono ?_; rintro e w3 ⟨v, rfl, ho, hF⟩; have HO := Lib.hid ho; have HF := Lib.hid hF; clear ho hF))
  go_wp2
  go_ret2
  refine ⟨v, rfl, HO.out, ?_⟩
  exact (HB.out.drew.trans HB2.out).drew.trans (HF.out.to_below (by have := K4.out; omega) (by simp))

set_option maxHeartbeats 2000000 in
set_option maxRecDepth 100000 in
theorem zzwr_refused (F : Interp) (size : Int) (rq op dt vb oq cas : Nat) (ae ak av : Option Addr) (le lk lv ce ck cv : Nat) (w : World) (hF : F.answers w.tape) (hs : size ≤ 65536)
    (hrq : w.heap[rq]? = some (.cells (reqCells op dt vb oq cas (.slice ae le ce) (.slice ak lk ck) (.slice av lv cv)) 30 (0, 0))) (hlt : rq < w.heap.size)
    (l1 : le ≤ 140737488355328) (l2 : lk ≤ 140737488355328) (l3 : lv ≤ 140737488355328) (hbad : 255 < le ∨ (le ≤ 255 ∧ 250 < lk) ∨ (le ≤ 255 ∧ lk ≤ 250 ∧ 1048576 < lv)) :
    Calls Tryf.prog 10 #[.int .i64 size, .pointer (some ⟨rq, 0, none⟩)] w fun e w' => ∃ v, e = .returned (.tuple #[v, .bool true]) ∧ OutIs v [] w' ∧ Below w.heap.size w w' := by
  obtain ⟨hN0, hN1⟩ := size_bounds size hs
  obtain ⟨N, hN⟩ : ∃ N, N = sizeOfWriter size := ⟨_, rfl⟩
  rw [← hN] at hN0 hN1
  have hnew := new_any size w hs
  rw [← hN] at hnew
  have hb := newWorld_below N w
  have hz := newWorld_size N w
  have hR := request_refused F (w.heap.size + 2) rq op dt vb oq cas ae ak av le lk lv ce ck cv (newWorld N w) (by rw [show (newWorld N w).tape = w.tape from hb.tape]; exact hF) (by rw [hb.block rq hlt]; exact hrq) (by rw [hz]; omega) l1 l2 l3 hbad
  have hwr : ∀ W, Below (w.heap.size + 3) (newWorld N w) W → WrIs (w.heap.size + 3) w.heap.size (w.heap.size + 1) (w.heap.size + 2) N [] [] W := fun W hW => newWorld_wr N (w.heap.size + 3) w W hN0 hN1 (Nat.le_refl _) hW
  have HNew := Lib.hid hnew
  have HR := Lib.hid hR
  have HB := Lib.hid hb
  have HZ := Lib.hid hz
  have HW := Lib.hid hwr
  obtain ⟨W0, hW0⟩ : ∃ W0, W0 = newWorld N w := ⟨_, rfl⟩
  rw [← hW0] at HNew HR HB HZ HW
  clear hnew hR hb hz hwr hN hW0 hrq hbad
  go_enter Tryf.func10, Tryf.ntmps10
  go_wp2_with fail
  refine HNew.out.mono ?_
  rintro e w1 ⟨rfl, rfl⟩
  go_wp2_with fail
  refine HR.out.mono ?_
  rintro e w2 ⟨⟨T, x, rfl⟩, hb2⟩
  rw [HZ.out] at hb2
  have hb2' : Below (w.heap.size + 3) w1 w2 := (Below.refl _ w1).drew.trans hb2
  have hz2 : w.heap.size + 3 ≤ w2.heap.size := by have := hb2'.size; have := HZ.out; omega
  have hfl := flushed (w.heap.size + 3) w.heap.size (w.heap.size + 1) (w.heap.size + 2) N [] [] w2.drew (HW.out w2 hb2').drew hz2 (by simp)
  have HFl := Lib.hid hfl
  have HB2 := Lib.hid hb2'
  clear hfl hb2 hb2' hz2
  go_wp2_with fail
  go_region_held3 (fun _ => True) (trivial) (first | (go_at_call 17; refine HFl.out.mono ?_; rintro e w3 ⟨v, rfl, ho, hF⟩; have HO := Lib.hid ho; have HF := Lib.hid hF; clear ho hF))
  go_wp2
  go_ret2
  refine ⟨v, rfl, HO.out, ?_⟩
  exact ((HB.out.trans (HB2.out.mono (by omega))).drew).trans (HF.out.to_below (by omega) (by simp))
end Go.Proofs.Qxb6615679aFmt
