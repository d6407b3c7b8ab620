/-
  WriteRequest and zzWriteRequest.
-/
import Derived.Test.Qxb6615679aFmtRefuse
namespace Go.Proofs.Qxb6615679aFmt
open Go.RowKit Go.Extern.Stop Go.Stop

/-- the bytes of a packet -/
def packet (op dt vb oq cas : Nat) (le lk lv : List UInt8) : List UInt8 := (outHdr op dt vb oq cas le.length lk.length lv.length).bytes ++ le ++ lk ++ lv

/-- a request's struct -/
def reqCells (op dt vb oq cas : Nat) (ev kv vv : Value) : Array Value := #[.int .u8 op, .int .u8 dt, .int .u16 vb, .int .u32 oq, .int .u64 cas, ev, kv, vv, .bool false]

theorem packet_ok (w0 : World) (N op dt vb oq cas B : Nat) (ev kv vv : Value) (le lk lv : List UInt8) (w : World) (hfr : Fresh w0 N w) (h0 : 0 < N) (h1 : N ≤ 65536) (hB : B ≤ w0.heap.size)
    (se : SrcV B ev le w) (sk : SrcV B kv lk w) (sv : SrcV B vv lv w) (he : le.length ≤ 255) (hk : lk.length ≤ 250) (hv : lv.length ≤ 1048576)
    (hop : op < 256) (hdt : dt < 256) (hvb : vb < 65536) (hoq : oq < 4294967296) (hcas : cas < 18446744073709551616) :
    Calls Tryf.prog 29 #[.pointer (some ⟨w0.heap.size + 2, 0, none⟩), .agg #[.int .u8 128, .int .u8 op, .int .u16 0, .int .u8 0, .int .u8 dt, .int .u16 vb, .int .u32 0, .int .u32 oq, .int .u64 cas], ev, kv, vv] w fun e w' => e = .returned .nilIface ∧
      (∃ Z out' pend', out' ++ pend' = packet op dt vb oq cas le lk lv ∧ WrIs Z w0.heap.size (w0.heap.size + 1) (w0.heap.size + 2) N out' pend' w' ∧ Z ≤ w'.heap.size ∧ w0.heap.size + 3 ≤ Z) ∧ Below w0.heap.size w w' := by
  by_cases hroom : 24 + (le.length + lk.length + lv.length) ≤ N
  · refine (packet_room w0 N op dt vb oq cas B ev kv vv le lk lv w hfr h0 h1 hB se sk sv he hk hv hroom hop hdt hvb hoq hcas).mono ?_
    rintro e w' ⟨rfl, Z, o', p', k1, k2, k3, k4, k5⟩
    exact ⟨rfl, ⟨Z, o', p', k1, k2, k3, k4⟩, k5⟩
  · refine (packet_loop w0 N op dt vb oq cas B ev kv vv le lk lv w hfr h0 h1 hB se sk sv he hk hv (by omega) hop hdt hvb hoq hcas).mono ?_
    rintro e w' ⟨rfl, Z, o', p', k1, k2, k3, k4, k5⟩
    exact ⟨rfl, ⟨Z, o', p', k1, k2, k3, k4⟩, k5⟩

set_option maxHeartbeats 4000000 in
set_option maxRecDepth 100000 in
/-- WriteRequest: out of whatever writePacket does in the world behind the draw -/
theorem request_any (bw rq op dt vb oq cas : Nat) (ev kv vv : Value) (w : World) (E : Ending → World → Prop) (hrq : w.heap[rq]? = some (.cells (reqCells op dt vb oq cas ev kv vv) 30 (0, 0)))
    (hE : ∀ e w', E e w' → (∃ v, e = .returned v) ∧ w'.heap[rq]? = w.heap[rq]?)
    (hcall : Calls Tryf.prog 29 #[.pointer (some ⟨bw, 0, none⟩), .agg #[.int .u8 128, .int .u8 op, .int .u16 0, .int .u8 0, .int .u8 dt, .int .u16 vb, .int .u32 0, .int .u32 oq, .int .u64 cas], ev, kv, vv] w.drew E) :
    Calls Tryf.prog 26 #[.pointer (some ⟨bw, 0, none⟩), .pointer (some ⟨rq, 0, none⟩)] w E := by
  have q0 : w.cell? ⟨rq, 0, none⟩ = some (.int .u8 op) := by rw [Lib.cell_of_heap hrq]; rfl
  have q1 : w.cell? ⟨rq, 1, none⟩ = some (.int .u8 dt) := by rw [Lib.cell_of_heap hrq]; rfl
  have q2 : w.cell? ⟨rq, 2, none⟩ = some (.int .u16 vb) := by rw [Lib.cell_of_heap hrq]; rfl
  have q3 : w.cell? ⟨rq, 3, none⟩ = some (.int .u32 oq) := by rw [Lib.cell_of_heap hrq]; rfl
  have q4 : w.cell? ⟨rq, 4, none⟩ = some (.int .u64 cas) := by rw [Lib.cell_of_heap hrq]; rfl
  have q5 : w.cell? ⟨rq, 5, none⟩ = some ev := by rw [Lib.cell_of_heap hrq]; rfl
  have q6 : w.cell? ⟨rq, 6, none⟩ = some kv := by rw [Lib.cell_of_heap hrq]; rfl
  have q7 : w.cell? ⟨rq, 7, none⟩ = some vv := by rw [Lib.cell_of_heap hrq]; rfl
  have HC := Lib.hid hcall
  have HE := Lib.hid hE
  have HR := Lib.hid hrq
  clear hcall hE hrq
  go_enter Tryf.func26, Tryf.ntmps26
  go_wp2_with fail
  go_region_held3 (fun w' => w'.cell? ⟨rq, 0, none⟩ = some (.int .u8 op) ∧ w'.cell? ⟨rq, 1, none⟩ = some (.int .u8 dt) ∧ w'.cell? ⟨rq, 2, none⟩ = some (.int .u16 vb) ∧ w'.cell? ⟨rq, 3, none⟩ = some (.int .u32 oq) ∧ w'.cell? ⟨rq, 4, none⟩ = some (.int .u64 cas) ∧ w'.cell? ⟨rq, 5, none⟩ = some ev ∧ w'.cell? ⟨rq, 6, none⟩ = some kv ∧ w'.cell? ⟨rq, 7, none⟩ = some vv) (go_keep)
    (first | (go_at_call 29; refine HC.out.mono ?_; intro e w2 he; have hq := (HE.out e w2 he).2; obtain ⟨v, rfl⟩ := (HE.out e w2 he).1; have hr2 := hq.trans HR.out; have d0 : w2.cell? ⟨rq, 0, none⟩ = some (.int .u8 op) := (by rw [Lib.cell_of_heap hr2]; rfl); have d1 : w2.cell? ⟨rq, 1, none⟩ = some (.int .u8 dt) := (by rw [Lib.cell_of_heap hr2]; rfl); have d2 : w2.cell? ⟨rq, 2, none⟩ = some (.int .u16 vb) := (by rw [Lib.cell_of_heap hr2]; rfl); have d3 : w2.cell? ⟨rq, 3, none⟩ = some (.int .u32 oq) := (by rw [Lib.cell_of_heap hr2]; rfl); have d4 : w2.cell? ⟨rq, 4, none⟩ = some (.int .u64 cas) := (by rw [Lib.cell_of_heap hr2]; rfl); have d5 : w2.cell? ⟨rq, 5, none⟩ = some ev := (by rw [Lib.cell_of_heap hr2]; rfl); have d6 : w2.cell? ⟨rq, 6, none⟩ = some kv := (by rw [Lib.cell_of_heap hr2]; rfl); have d7 : w2.cell? ⟨rq, 7, none⟩ = some vv := (by rw [Lib.cell_of_heap hr2]; rfl); have HE2 := Lib.hid he; clear he hq hr2))
  go_wp2
  exact HE2.out

theorem Fresh.drew {w0 w : World} {N : Nat} (h : Fresh w0 N w) : Fresh w0 N w.drew := ⟨h.1.drew, h.2⟩
theorem SrcV.drew {B : Nat} {v : Value} {l : List UInt8} {w : World} (h : SrcV B v l w) : SrcV B v l w.drew := h.below (Below.refl B w).drew (Nat.le_refl _)

theorem request_ok (w0 : World) (N rq op dt vb oq cas B : Nat) (ev kv vv : Value) (le lk lv : List UInt8) (w : World) (hfr : Fresh w0 N w) (h0 : 0 < N) (h1 : N ≤ 65536) (hB : B ≤ w0.heap.size)
    (hrq : w.heap[rq]? = some (.cells (reqCells op dt vb oq cas ev kv vv) 30 (0, 0))) (hlt : rq < w0.heap.size)
    (se : SrcV B ev le w) (sk : SrcV B kv lk w) (sv : SrcV B vv lv w) (he : le.length ≤ 255) (hk : lk.length ≤ 250) (hv : lv.length ≤ 1048576)
    (hop : op < 256) (hdt : dt < 256) (hvb : vb < 65536) (hoq : oq < 4294967296) (hcas : cas < 18446744073709551616) :
    Calls Tryf.prog 26 #[.pointer (some ⟨w0.heap.size + 2, 0, none⟩), .pointer (some ⟨rq, 0, none⟩)] w fun e w' => e = .returned .nilIface ∧
      (∃ Z out' pend', out' ++ pend' = packet op dt vb oq cas le lk lv ∧ WrIs Z w0.heap.size (w0.heap.size + 1) (w0.heap.size + 2) N out' pend' w' ∧ Z ≤ w'.heap.size ∧ w0.heap.size + 3 ≤ Z) ∧ Below w0.heap.size w.drew w' := by
  refine request_any (w0.heap.size + 2) rq op dt vb oq cas ev kv vv w _ hrq ?_ (packet_ok w0 N op dt vb oq cas B ev kv vv le lk lv w.drew hfr.drew h0 h1 hB se.drew sk.drew sv.drew he hk hv hop hdt hvb hoq hcas)
  rintro e w' ⟨rfl, _, hb⟩
  exact ⟨⟨_, rfl⟩, hb.block rq hlt⟩

theorem request_refused (F : Interp) (bw rq op dt vb oq cas : Nat) (ae ak av : Option Addr) (le lk lv ce ck cv : Nat) (w : World) (hF : F.answers w.tape)
    (hrq : w.heap[rq]? = some (.cells (reqCells op dt vb oq cas (.slice ae le ce) (.slice ak lk ck) (.slice av lv cv)) 30 (0, 0))) (hlt : rq < w.heap.size)
    (l1 : le ≤ 140737488355328) (l2 : lk ≤ 140737488355328) (l3 : lv ≤ 140737488355328) (hbad : 255 < le ∨ (le ≤ 255 ∧ 250 < lk) ∨ (le ≤ 255 ∧ lk ≤ 250 ∧ 1048576 < lv)) :
    Calls Tryf.prog 26 #[.pointer (some ⟨bw, 0, none⟩), .pointer (some ⟨rq, 0, none⟩)] w fun e w' => (∃ T x, e = .returned (.iface T x)) ∧ Below w.heap.size w.drew w' := by
  refine request_any bw rq op dt vb oq cas _ _ _ w _ hrq ?_ (packet_refuse F bw ae ak av le lk lv ce ck cv w.drew hF 128 op 0 0 dt vb 0 oq cas l1 l2 l3 hbad)
  rintro e w' ⟨⟨T, x, rfl⟩, hb⟩
  exact ⟨⟨_, rfl⟩, hb.block rq hlt⟩
end Go.Proofs.Qxb6615679aFmt
