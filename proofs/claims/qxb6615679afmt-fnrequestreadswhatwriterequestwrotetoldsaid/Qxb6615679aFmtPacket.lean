/-
  writePacket over a fresh writer: what it writes, where it refuses.
-/
import Derived.Test.Qxb6615679aFmtPut
import Derived.Deep.AppendSrc
namespace Go.Proofs.Qxb6615679aFmt
open Go.RowKit

/-- a slice of bytes that lies below block B: its value, its bytes -/
structure SrcV (B : Nat) (v : Value) (l : List UInt8) (w : World) : Prop where
  ex : ∃ ao c, v = .slice ao l.length c ∧ l.length ≤ c ∧ c ≤ 140737488355328 ∧ ((l = [] ∧ ao = none ∧ c = 0) ∨ ∃ sb o, ao = some ⟨sb, o, none⟩ ∧ sb < B ∧ SrcAt sb o l w)

/-- a fresh writer made in the world w0 -/
def Fresh (w0 : World) (N : Nat) (w : World) : Prop := Below (w0.heap.size + 3) (newWorld N w0) w ∧ w0.heap.size + 3 ≤ w.heap.size

theorem Fresh.wr {w0 w : World} {N : Nat} (h : Fresh w0 N w) (Z : Nat) (hZ : w0.heap.size + 3 ≤ Z) (h0 : 0 < N) (h1 : N ≤ 65536) : WrIs Z w0.heap.size (w0.heap.size + 1) (w0.heap.size + 2) N [] [] w :=
  newWorld_wr N Z w0 w h0 h1 hZ h.1

theorem Fresh.alloc {w0 w : World} {N : Nat} (h : Fresh w0 N w) (o : Obj) : Fresh w0 N (w.alloc o) := ⟨h.1.alloc h.2 o, by rw [World.size_alloc]; have := h.2; omega⟩

/-- the header that goes out -/
def outHdr (op dt vb oq cas le lk lv : Nat) : Hdr := ⟨128, op, lk, le, dt, vb, le + lk + lv, oq, cas⟩

theorem SrcV.below {B B' : Nat} {v : Value} {l : List UInt8} {w w' : World} (h : SrcV B v l w) (hb : Below B' w w') (hB : B ≤ B') : SrcV B v l w' := by
  obtain ⟨ao, c, e, h1, h2, h3⟩ := h.ex
  refine ⟨ao, c, e, h1, h2, ?_⟩
  rcases h3 with h3 | ⟨sb, o, e1, hs, hsrc⟩
  · exact .inl h3
  · exact .inr ⟨sb, o, e1, hs, hsrc.below hb (by omega)⟩

theorem avail0 (Z bx bb bw N : Nat) (out : List UInt8) (w : World) (h : WrIs Z bx bb bw N out [] w) :
    Calls Tryf.prog 43 #[.pointer (some ⟨bw, 0, none⟩)] w fun e w' => e = .returned (.int .i64 (N : Int)) ∧ ∃ n, w' = w.drewN n :=
  avail Z bx bb bw N out [] w h

/-- a writer to which nothing was written stays one while its row's bytes are put together -/
theorem WrIs.draft {Z bx bb bw N : Nat} {w V : World} {c : List Value} (h : WrIs Z bx bb bw N [] [] w) (hZ : Z ≤ w.heap.size) (hg : w.grownBy V (some bb)) (hr : V.heap[bb]? = some (.cells c.toArray 5 (0, 0))) (hs : c.length = N) : WrIs Z bx bb bw N [] [] V := by
  have lx := h.lx
  have lb := h.lb
  have lw := h.lw
  refine ⟨?_, h.lb, h.lw, h.xb, h.xw, h.nbw, h.pos, h.lim, ?_, c.toArray, hr, by simpa using hs, rfl, Nat.zero_le _⟩
  · obtain ⟨ao, cap, lr, k1, k2, k3⟩ := h.buf
    refine ⟨ao, cap, lr, by rw [hg.block bx (by omega) (by simpa using h.xb)]; exact k1, k2, ?_⟩
    rcases k3 with k3 | ⟨l0, _⟩
    · exact .inl k3
    · exact absurd l0 (by decide)
  · rw [hg.block bw (by omega) (by simpa using Ne.symm h.nbw)]
    exact h.st

/-- 'append(b, src...)' where b lies at the head of a row that has room -/
theorem append_row (W : World) (g L N B : Nat) (v : Value) (l : List UInt8) (cur : List Value) (hr : W.heap[g]? = some (.cells cur.toArray 5 (0, 0))) (hs : SrcV B v l W) (hfit : L + l.length ≤ N) (hN : cur.length = N) :
    (Builtin.append_ #[25, 25] 25 #[.slice (some ⟨g, 0, none⟩) L N, v]).run Tryf.prog W = .ok (.slice (some ⟨g, 0, none⟩) (L + l.length) N) (W.setCells g L (Lib.byteCells l)) := by
  obtain ⟨i0, hi, hz0, hz1, hz2⟩ := info_parts info5
  obtain ⟨ao, c, rfl, h1, h2, h3⟩ := hs.ex
  have hsrc : Src Tryf.prog i0.size 25 (.slice ao l.length c) l.length (Lib.byteCells l) W := by
    rcases h3 with ⟨rfl, rfl, rfl⟩ | ⟨sb, o, rfl, _, hsrc⟩
    · exact Src.ofNil W Tryf.underlying25 0
    · exact Src.ofSlice W Tryf.underlying25 ⟨sb, o, none⟩ l.length c (Lib.byteCells l) (by rw [byteCells_length, hz1, Nat.mul_one]) (fun j u hj => by rw [Lib.addr_add]; exact hsrc j u hj) (Lib.byteCells_one _)
  have h := run_append_room_src (P := Tryf.prog) W 25 25 25 5 i0 Tryf.underlying25 hi g 0 L N (.slice ao l.length c) l.length (Lib.byteCells l) hsrc hfit
    (fun j hj => by
      rw [byteCells_length] at hj
      rw [hz1, Nat.mul_one, Nat.zero_add, some_at hr (L + j) (by omega)]
      rfl)
    (fun j _ => Lib.frozen_of_heap hr _)
  rw [hz1, Nat.mul_one, Nat.zero_add] at h
  exact h

theorem SrcV.setCells {B : Nat} {v : Value} {l : List UInt8} {w : World} (h : SrcV B v l w) {g : Nat} (hg : B ≤ g) (o : Nat) (vs : List Value) : SrcV B v l (w.setCells g o vs) := by
  have hgr := grown_setCells g vs o w w ⟨rfl, rfl, rfl, Nat.le_refl _, fun _ _ _ => rfl⟩
  obtain ⟨ao, c, e, h1, h2, h3⟩ := h.ex
  refine ⟨ao, c, e, h1, h2, ?_⟩
  rcases h3 with h3 | ⟨sb, o', e1, hs, hsrc⟩
  · exact .inl h3
  · refine .inr ⟨sb, o', e1, hs, fun j v hj => ?_⟩
    have hc := hsrc j v hj
    exact hgr.cell hc (by simp; omega)

/-- the three appends, one behind the other -/
theorem assemble (w4 : World) (g N B : Nat) (ev kv vv : Value) (le lk lv hd : List UInt8) (cur : List Value) (hg : B ≤ g) (hN : cur.length = N) (hh : hd.length = 24) (hr : w4.heap[g]? = some (.cells (putL cur 0 (Lib.byteCells hd)).toArray 5 (0, 0)))
    (se : SrcV B ev le w4) (sk : SrcV B kv lk w4) (sv : SrcV B vv lv w4) (hfit : 24 + (le.length + lk.length + lv.length) ≤ N) :
    ∃ V1 V2 V3 : World, (Builtin.append_ #[25, 25] 25 #[.slice (some ⟨g, 0, none⟩) 24 N, ev]).run Tryf.prog w4 = .ok (.slice (some ⟨g, 0, none⟩) (24 + le.length) N) V1 ∧
      (Builtin.append_ #[25, 25] 25 #[.slice (some ⟨g, 0, none⟩) (24 + le.length) N, kv]).run Tryf.prog V1 = .ok (.slice (some ⟨g, 0, none⟩) (24 + le.length + lk.length) N) V2 ∧
      (Builtin.append_ #[25, 25] 25 #[.slice (some ⟨g, 0, none⟩) (24 + le.length + lk.length) N, vv]).run Tryf.prog V2 = .ok (.slice (some ⟨g, 0, none⟩) (24 + le.length + lk.length + lv.length) N) V3 ∧
      V3.heap[g]? = some (.cells (putL cur 0 (Lib.byteCells (hd ++ le ++ lk ++ lv))).toArray 5 (0, 0)) ∧ w4.grownBy V3 (some g) := by
  have bh : (Lib.byteCells hd).length = 24 := by rw [byteCells_length, hh]
  have l0 : (putL cur 0 (Lib.byteCells hd)).length = N := by rw [putL_length _ _ _ (by rw [bh, hN]; omega), hN]
  have step : ∀ (acc b : List UInt8) (o : Nat), acc.length = o → o + b.length ≤ N → putL (putL cur 0 (Lib.byteCells acc)) o (Lib.byteCells b) = putL cur 0 (Lib.byteCells (acc ++ b)) := fun acc b o ho hb => by
    have := putL_putL cur 0 (Lib.byteCells acc) (Lib.byteCells b) (by rw [byteCells_length, byteCells_length]; omega)
    rw [Nat.zero_add, byteCells_length, ho] at this
    rw [this, byteCells_append]
  have len : ∀ (acc : List UInt8), acc.length ≤ N → (putL cur 0 (Lib.byteCells acc)).length = N := fun acc ha => by
    rw [putL_length _ _ _ (by rw [byteCells_length, hN]; omega), hN]
  have r1 : (w4.setCells g 24 (Lib.byteCells le)).heap[g]? = some (.cells (putL cur 0 (Lib.byteCells (hd ++ le))).toArray 5 (0, 0)) := by
    rw [heap_setCells g 5 _ 24 _ w4 hr (by rw [byteCells_length, l0]; omega), step hd le 24 hh (by omega)]
  have e1 : (hd ++ le).length = 24 + le.length := by rw [List.length_append, hh]
  have r2 : ((w4.setCells g 24 (Lib.byteCells le)).setCells g (24 + le.length) (Lib.byteCells lk)).heap[g]? = some (.cells (putL cur 0 (Lib.byteCells (hd ++ le ++ lk))).toArray 5 (0, 0)) := by
    rw [heap_setCells g 5 _ _ _ _ r1 (by rw [byteCells_length, len _ (by omega)]; omega), step _ lk _ e1 (by omega)]
  have e2 : (hd ++ le ++ lk).length = 24 + le.length + lk.length := by rw [List.length_append, e1]
  have r3 : (((w4.setCells g 24 (Lib.byteCells le)).setCells g (24 + le.length) (Lib.byteCells lk)).setCells g (24 + le.length + lk.length) (Lib.byteCells lv)).heap[g]? = some (.cells (putL cur 0 (Lib.byteCells (hd ++ le ++ lk ++ lv))).toArray 5 (0, 0)) := by
    rw [heap_setCells g 5 _ _ _ _ r2 (by rw [byteCells_length, len _ (by omega)]; omega), step _ lv _ e2 (by omega)]
  refine ⟨_, _, _, append_row w4 g 24 N B ev le _ hr se (by omega) l0, append_row _ g (24 + le.length) N B kv lk _ r1 (sk.setCells hg _ _) (by omega) (len _ (by omega)), append_row _ g (24 + le.length + lk.length) N B vv lv _ r2 ((sv.setCells hg _ _).setCells hg _ _) (by omega) (len _ (by omega)), r3, ?_⟩
  exact grown_setCells g _ _ _ _ (grown_setCells g _ _ _ _ (grown_setCells g _ _ _ _ ⟨rfl, rfl, rfl, Nat.le_refl _, fun _ _ _ => rfl⟩))

/-- an append whose run is known, for the walk -/
theorem wpList_append_run {P : Program} {w w1 : World} {ops : Array Oper} {rest : List Oper} {o : Oper} {a : Act} {Q : Exit → Act → World → Prop}
    (hg : o.guard = none) (s x : Operand) (hop : o.op = Op.call { callee := Callee.builtin Builtin.append, args := #[s, x], argTypes := #[25, 25] }) (hty : o.type = 25) (v1 v2 v : Value) (hs : a.eval s = v1) (hx : a.eval x = v2)
    (hrun : (Builtin.append_ #[25, 25] 25 #[v1, v2]).run P w = .ok v w1) (h : wpList P ops Q rest (a.put o.dst v) w1) : wpList P ops Q (o :: rest) a w := by
  refine wpList_plain hg fun K hK' => ?_
  unfold Oper.wp execOp
  simp only [hop, resolve, invoke, builtin, Sem.run_bind, Sem.run_pure, Result.andThen_ok, List.map_toArray, List.map_cons, List.map_nil, hs, hx, hty, hrun]
  exact hK' _ _ h

theorem take_putL (l : List Value) (vs : List Value) (n : Nat) (hn : vs.length = n) : (putL l 0 vs).take n = vs := by
  unfold putL
  rw [List.take_zero, List.nil_append]
  exact List.take_left' hn

set_option maxHeartbeats 2000000 in
set_option maxRecDepth 100000 in
theorem packet_room (w0 : World) (N op dt vb oq cas B : Nat) (ev kv vv : Value) (le lk lv : List UInt8) (w : World) (hfr : Fresh w0 N w) (h0 : 0 < N) (h1 : N ≤ 65536) (hB : B ≤ w0.heap.size)
    (se : SrcV B ev le w) (sk : SrcV B kv lk w) (sv : SrcV B vv lv w) (he : le.length ≤ 255) (hk : lk.length ≤ 250) (hv : lv.length ≤ 1048576) (hroom : 24 + (le.length + lk.length + lv.length) ≤ N)
    (hop : op < 256) (hdt : dt < 256) (hvb : vb < 65536) (hoq : oq < 4294967296) (hcas : cas < 18446744073709551616) :
    Calls Tryf.prog 29 #[.pointer (some ⟨w0.heap.size + 2, 0, none⟩), .agg #[.int .u8 128, .int .u8 op, .int .u16 0, .int .u8 0, .int .u8 dt, .int .u16 vb, .int .u32 0, .int .u32 oq, .int .u64 cas], ev, kv, vv] w fun e w' => e = .returned .nilIface ∧
      ∃ Z out' pend', out' ++ pend' = (outHdr op dt vb oq cas le.length lk.length lv.length).bytes ++ le ++ lk ++ lv ∧ WrIs Z w0.heap.size (w0.heap.size + 1) (w0.heap.size + 2) N out' pend' w' ∧ Z ≤ w'.heap.size ∧ w0.heap.size + 3 ≤ Z ∧ Below w0.heap.size w w' := by
  obtain ⟨ae, ce, rfl, e1, e2, e3⟩ := se.ex
  obtain ⟨ak, ck, rfl, k1, k2, k3⟩ := sk.ex
  obtain ⟨av, cv, rfl, v1, v2, v3⟩ := sv.ex
  have he' : (le.length : Int) ≤ 255 := by omega
  have hk' : (lk.length : Int) ≤ 250 := by omega
  have hv' : (lv.length : Int) ≤ 1048576 := by omega
  have HE := Lib.hid e3
  have HK := Lib.hid k3
  have HV := Lib.hid v3
  clear se sk sv e3 k3 v3
  obtain ⟨hh, hhh⟩ : ∃ hh, hh = w.heap.size := ⟨_, rfl⟩
  obtain ⟨W1, hW1⟩ : ∃ W1, W1 = w.alloc (.cells #[.int .u8 128, .int .u8 op, .int .u16 lk.length, .int .u8 le.length, .int .u8 dt, .int .u16 vb, .int .u32 ((le.length : Int) + (lk.length : Int) + (lv.length : Int)), .int .u32 oq, .int .u64 cas] 60) := ⟨_, rfl⟩
  obtain ⟨H, hH⟩ : ∃ H, H = outHdr op dt vb oq cas le.length lk.length lv.length := ⟨_, rfl⟩
  have hfits : H.fits := by
    rw [hH]
    exact ⟨(by decide : 128 < 256), hop, by show lk.length < _; omega, by show le.length < _; omega, hdt, hvb, by show le.length + lk.length + lv.length < _; omega, hoq, hcas⟩
  have hfr1 : Fresh w0 N W1 := by rw [hW1]; exact hfr.alloc _
  have hcells : W1.heap[hh]? = some (.cells H.cells 60 (0, 0)) := by
    rw [hW1, hhh]
    have h := heap_alloc_new w (.cells #[.int .u8 128, .int .u8 op, .int .u16 lk.length, .int .u8 le.length, .int .u8 dt, .int .u16 vb, .int .u32 ((le.length : Int) + (lk.length : Int) + (lv.length : Int)), .int .u32 oq, .int .u64 cas] 60)
    rw [h, hH]
    rfl
  have hz1 : W1.heap.size = hh + 1 := by rw [hW1, World.size_alloc, hhh]
  have hb1 : Below hh w W1 := by rw [hW1, hhh]; exact (Below.refl _ _).alloc (Nat.le_refl _) _
  have h3 : w0.heap.size + 3 ≤ hh := by rw [hhh]; exact hfr.2
  have q6 : W1.cell? ⟨hh, 6, none⟩ = some (.int .u32 ((le.length : Int) + (lk.length : Int) + (lv.length : Int))) := by
    rw [Lib.cell_of_heap hcells, hH]
    show some (Value.int .u32 ((le.length + lk.length + lv.length : Nat) : Int)) = _
    rw [show ((le.length + lk.length + lv.length : Nat) : Int) = (le.length : Int) + (lk.length : Int) + (lv.length : Int) by omega]
  have hwr := hfr1.wr (hh + 1) (by omega) h0 h1
  have hroom' : 24 + ((le.length : Int) + (lk.length : Int) + (lv.length : Int)) ≤ (N : Int) := by omega
  have hw1 : IntKind.i64.wrap ((le.length : Int) + (lk.length : Int) + (lv.length : Int)) = (le.length : Int) + (lk.length : Int) + (lv.length : Int) := by rw [IntKind.wrap_i64]; omega
  have hw2 : IntKind.i64.wrap (24 + ((le.length : Int) + (lk.length : Int) + (lv.length : Int))) = 24 + ((le.length : Int) + (lk.length : Int) + (lv.length : Int)) := by rw [IntKind.wrap_i64]; omega
  have A1 := Lib.hid (avail0 _ _ _ _ _ _ W1.drew hwr.drew)
  have HH := Lib.hid hhh
  have HW1 := Lib.hid hW1
  have HHd := Lib.hid hH
  have HC := Lib.hid hcells
  have HWR := Lib.hid hwr
  have HF := Lib.hid hfits
  have HZ := Lib.hid hz1
  have HB := Lib.hid hb1
  have HFR := Lib.hid hfr1
  clear hhh hW1 hH hcells hwr hfits hz1 hb1 hfr1 hfr
  go_enter Tryf.func29, Tryf.ntmps29
  go_wp2_with fail
  rw [← HW1.out, ← HH.out]
  go_region_held3 (fun w' => w'.cell? ⟨hh, 6, none⟩ = some (.int .u32 ((le.length : Int) + (lk.length : Int) + (lv.length : Int)))) (go_keep) (first | (go_at_call 43; refine A1.out.mono ?_; rintro e w2 ⟨rfl, nq, rfl⟩))
  clear q6 A1
  go_wp2_with fail
  refine (availBuf _ _ _ _ _ _ _ (HWR.out.drewN (1 + nq))).mono ?_
  rintro e w3 ⟨rfl, n3, rfl⟩
  have n24 : (24 : Int) ≤ (N : Int) := by omega
  go_wp2_with fail
  obtain ⟨cur0, hrow, hcs, _, _⟩ := HWR.out.row
  have hl0 : cur0.toList.length = N := by rw [Array.length_toList, hcs]
  have hP := put_any H HF.out hh (w0.heap.size + 1) N 5 cur0.toList (W1.drewN (1 + nq + n3)) HC.out (by exact hrow) (by rw [hl0]; omega) (by omega) (by omega)
  clear hrow hcs
  refine hP.mono ?_
  clear hP
  rintro e w4 ⟨rfl, s4, g4⟩
  have g4' : W1.grownBy w4 (some (w0.heap.size + 1)) := Lib.grownBy_trans (w := W1.drewN (1 + nq + n3)) ⟨rfl, rfl, rfl, Nat.le_refl _, fun _ _ _ => rfl⟩ g4
  -- the four pieces, one behind the other
  obtain ⟨p, hp⟩ : ∃ p, p = H.bytes ++ le ++ lk ++ lv := ⟨_, rfl⟩
  have hpl : p.length = 24 + le.length + lk.length + lv.length := by rw [hp]; simp only [List.length_append, H.bytes_length]
  have b4 : Below B w w4 := (HB.out.mono (by omega)).trans ⟨g4'.os, g4'.tape, g4'.output, g4'.size, fun k hk => g4'.block k (by rw [HZ.out]; omega) (by simp; omega)⟩
  obtain ⟨V1, V2, V3, a1, a2, a3, s5, g5⟩ := assemble w4 (w0.heap.size + 1) N B _ _ _ le lk lv H.bytes cur0.toList (by omega) hl0 H.bytes_length s4 (SrcV.below ⟨_, _, rfl, e1, e2, HE.out⟩ b4 (Nat.le_refl _)) (SrcV.below ⟨_, _, rfl, k1, k2, HK.out⟩ b4 (Nat.le_refl _)) (SrcV.below ⟨_, _, rfl, v1, v2, HV.out⟩ b4 (Nat.le_refl _)) (by omega)
  have g6 : W1.grownBy V3 (some (w0.heap.size + 1)) := Lib.grownBy_trans g4' g5
  rw [← hp] at s5
  have hW := HWR.out.draft (by rw [HZ.out]; omega) g6 s5 (by rw [putL_length _ _ _ (by rw [byteCells_length, hpl, hl0]; omega), hl0])
  have hWf := write_fit (hh + 1) w0.heap.size (w0.heap.size + 1) (w0.heap.size + 2) N [] [] (w0.heap.size + 1) 0 N p V3 hW (by rw [hpl]; simp; omega) (SrcAt.of_row s5 (by
    show (putL cur0.toList 0 (Lib.byteCells p)).take p.length = Lib.byteCells p
    exact take_putL _ _ _ (byteCells_length p)))
  rw [hpl] at hWf
  have HWf := Lib.hid hWf
  have HG6 := Lib.hid g6
  have HP := Lib.hid hp
  have A1 := Lib.hid a1
  have A2 := Lib.hid a2
  have A3 := Lib.hid a3
  clear hWf hW s5 s4 g4 g4' g5 g6 b4 hp hpl hl0 n24 a1 a2 a3
  go_wp2_with (first | (at_builtin; refine wpList_append_run rfl (.tmp 71) (.tmp 72) rfl rfl _ _ _ rfl rfl A1.out ?_) | (at_builtin; refine wpList_append_run rfl (.tmp 73) (.tmp 74) rfl rfl _ _ _ rfl rfl A2.out ?_) | (at_builtin; refine wpList_append_run rfl (.tmp 75) (.tmp 76) rfl rfl _ _ _ rfl rfl A3.out ?_))
  refine HWf.out.mono ?_
  rintro e w6 ⟨rfl, h6, F6⟩
  go_wp2
  go_ret
  refine ⟨rfl, hh + 1, [], _, ?_, h6, ?_, by omega, ?_⟩
  · rw [List.nil_append, List.nil_append, HP.out, HHd.out]
  · have := F6.size
    have := HG6.out.size
    have := HZ.out
    omega
  · exact (HB.out.mono (by omega)).trans (Below.trans (b := V3) ⟨HG6.out.os, HG6.out.tape, HG6.out.output, HG6.out.size, fun k hk => HG6.out.block k (by rw [HZ.out]; omega) (by simp; omega)⟩ (F6.to_below (by omega) (by simp)))
end Go.Proofs.Qxb6615679aFmt
