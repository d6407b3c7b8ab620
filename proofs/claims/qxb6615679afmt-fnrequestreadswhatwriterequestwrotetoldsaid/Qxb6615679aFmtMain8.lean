/-
  The law's function 8 (FnRequestReadsWhatWriteRequestWrote), walked.
-/
import Derived.Test.Qxb6615679aFmtRead2
namespace Go.Proofs.Qxb6615679aFmt
open Go.RowKit Go.Stop

set_option maxHeartbeats 2000000 in
set_option maxRecDepth 100000 in
/-- beyond the limits of the law: true at once -/
theorem fn8_early (size : Int) (op dt vb oq cas : Nat) (ae ak av : Option Addr) (ne nk nv ce ck cv : Nat) (w : World) (h : ¬ ne + nk + nv ≤ 1048576 ∨ size < 16 ∨ 65536 < size ∨ ¬ (ne ≤ 255 ∧ nk ≤ 250 ∧ nv ≤ 1048576)) :
    Calls Tryf.prog 8 #[.int .i64 size, .int .u8 op, .int .u8 dt, .int .u16 vb, .int .u32 oq, .int .u64 cas, .slice ae ne ce, .slice ak nk ck, .slice av nv cv] w fun e w' => e = .returned (.bool true) ∧ Below w.heap.size w w' := by
  by_cases hsum : ne + nk + nv ≤ 1048576
  · have hb := bytesB_true hsum
    by_cases hlo : size < 16
    · clear h
      go_enter Tryf.func8, Tryf.ntmps8
      go_wp2_with (go_at_call 25; refine (bytes25_any _ _ _ _ _ _ _ _ _ _ _ _ _ _ _ _).mono ?_; rintro e w1 ⟨rfl, rfl⟩; rw [hb])
      go_ret
      exact ⟨rfl, Below.refl _ _⟩
    · by_cases hhi : 65536 < size
      · clear h
        go_enter Tryf.func8, Tryf.ntmps8
        go_wp2_with (go_at_call 25; refine (bytes25_any _ _ _ _ _ _ _ _ _ _ _ _ _ _ _ _).mono ?_; rintro e w1 ⟨rfl, rfl⟩; rw [hb])
        go_ret
        exact ⟨rfl, Below.refl _ _⟩
      · have hw := wireB_false (((h.resolve_left (fun k => k hsum)).resolve_left hlo).resolve_left hhi)
        clear h
        go_enter Tryf.func8, Tryf.ntmps8
        go_wp2_with (first
          | (go_at_call 25; refine (bytes25_any _ _ _ _ _ _ _ _ _ _ _ _ _ _ _ _).mono ?_; rintro e w1 ⟨rfl, rfl⟩; rw [hb])
          | (go_at_call 11; refine (wireOK_any _ _ _ _ _ _ _ _ _ _).mono ?_; rintro e w3 ⟨rfl, rfl⟩; rw [hw]))
        go_ret
        exact ⟨rfl, Below.refl _ _⟩
  · have hb := bytesB_false hsum
    clear h
    go_enter Tryf.func8, Tryf.ntmps8
    go_wp2_with (go_at_call 25; refine (bytes25_any _ _ _ _ _ _ _ _ _ _ _ _ _ _ _ _).mono ?_; rintro e w1 ⟨rfl, rfl⟩; rw [hb])
    go_ret
    exact ⟨rfl, Below.refl _ _⟩

set_option maxHeartbeats 4000000 in
set_option maxRecDepth 100000 in
theorem fn8_ok (N op dt vb oq cas : Nat) (ev kv vv : Value) (le lk lv : List UInt8) (w : World) (se : SrcV w.heap.size ev le w) (sk : SrcV w.heap.size kv lk w) (sv : SrcV w.heap.size vv lv w)
    (hsum : le.length + lk.length + lv.length ≤ 1048576) (hlo : 16 ≤ N) (hhi : N ≤ 65536) (he : le.length ≤ 255) (hk : lk.length ≤ 250) (hop : op < 256) (hdt : dt < 256) (hvb : vb < 65536) (hoq : oq < 4294967296) (hcas : cas < 18446744073709551616) :
    Calls Tryf.prog 8 #[.int .i64 N, .int .u8 op, .int .u8 dt, .int .u16 vb, .int .u32 oq, .int .u64 cas, ev, kv, vv] w fun e w' => e = .returned (.bool true) ∧ Below w.heap.size w w' := by
  have hb := bytesB_true hsum
  have hw := wireB_true (ne := le.length) (nk := lk.length) (nv := lv.length) ⟨he, hk, by omega⟩
  have n3 : lv.length ≤ 1048576 := by omega
  have hfits := outHdr_fits hop hdt hvb hoq hcas he hk n3
  obtain ⟨W1, hW1⟩ : ∃ W1, W1 = w.alloc (.cells #[.int .u8 op, .int .u8 dt, .int .u16 vb, .int .u32 oq, .int .u64 cas, ev, kv, vv, .bool false] 30) := ⟨_, rfl⟩
  have hB : Below w.heap.size w W1 := by rw [hW1]; exact (Below.refl _ _).alloc (Nat.le_refl _) _
  have hW := zzwr_ok 4096 w.heap.size op dt vb oq cas w.heap.size ev kv vv le lk lv W1 (by decide) hB.size (by rw [hW1]; exact heap_alloc_new w _) (by rw [hW1]; simp) (se.below hB (Nat.le_refl _)) (sk.below hB (Nat.le_refl _)) (sv.below hB (Nat.le_refl _)) he hk n3 hop hdt hvb hoq hcas
  have hrows : ∀ W, Below w.heap.size w W → RowOf ev le W ∧ RowOf kv lk W ∧ RowOf vv lv W := fun W h => ⟨(se.below h (Nat.le_refl _)).row, (sk.below h (Nat.le_refl _)).row, (sv.below h (Nat.le_refl _)).row⟩
  obtain ⟨ae, ce, rfl, _⟩ := se.ex
  obtain ⟨ak, ck, rfl, _⟩ := sk.ex
  obtain ⟨av, cv, rfl, _⟩ := sv.ex
  have HW := Lib.hid hW
  have HB := Lib.hid hB
  have HW1 := Lib.hid hW1
  have HR := Lib.hid hrows
  have HFi := Lib.hid hfits
  clear hW hB hW1 hrows hfits se sk sv
  go_enter Tryf.func8, Tryf.ntmps8
  go_wp2_with (first
    | (go_at_call 25; refine (bytes25_any _ _ _ _ _ _ _ _ _ _ _ _ _ _ _ _).mono ?_; rintro e w1 ⟨rfl, rfl⟩; rw [hb])
    | (go_at_call 11; refine (wireOK_any _ _ _ _ _ _ _ _ _ _).mono ?_; rintro e w1 ⟨rfl, rfl⟩; rw [hw]))
  rw [← HW1.out]
  refine HW.out.mono ?_
  rintro e w2 ⟨v, rfl, ho, hb2⟩
  obtain ⟨g, cap, rfl, hg, hcap, hmax, hH, hS⟩ := outIs_packet ho
  have HB2 := Lib.hid (HB.out.trans (hb2.mono HB.out.size))
  have HS := Lib.hid hS
  have HH := Lib.hid hH
  have HP := Lib.hid (headerOf_any _ HFi.out g cap w2 hH hg (by omega))
  have HG := Lib.hid hg
  clear hb2 ho hH hS hg
  go_wp2_with fail
  refine HP.out.mono ?_
  rintro e w4 ⟨rfl, hb4⟩
  simp only [Hdr.cells, outHdr]
  have HB4 := Lib.hid (HB2.out.trans (hb4.mono HB2.out.size))
  have HS4 := Lib.hid (HS.out.below hb4 HG.out)
  have HH4 := Lib.hid (HH.out.below hb4 HG.out)
  have HG4 := Lib.hid (Nat.lt_of_lt_of_le HG.out hb4.size)
  clear hb4
  by_cases hz : cap = 24
  · subst hz
    have e1 := List.eq_nil_of_length_eq_zero (l := le) (by omega)
    have e2 := List.eq_nil_of_length_eq_zero (l := lk) (by omega)
    have e3 := List.eq_nil_of_length_eq_zero (l := lv) (by omega)
    have hvac : SrcAt g 0 (le ++ lk ++ lv) w4.drew := by rw [e1, e2, e3]; intro i v hv; simp [Lib.byteCells] at hv
    generalize hL : 24 + (le.length + lk.length + lv.length) = L at *
    have rq := requestOf_any (outHdr op dt vb oq cas le.length lk.length lv.length) HFi.out N g 24 0 0 le lk lv w4.drew rfl rfl ⟨fun i v hv => HH4.out.s i v hv⟩ hvac HG4.out (by omega) (by omega) he hk n3 hlo hhi
    rw [show le.length + lk.length + lv.length = 0 by omega] at rq
    have RQ := Lib.hid rq
    have HL := Lib.hid hL
    have i2 : (L : Int) ≤ (24 : Int) := by omega
    have i3 : (24 : Int) ≤ (L : Int) := by omega
    clear rq hL hvac e1 e2 e3
    go_wp2_with fail
    go_region_held3 (fun _ => True) (trivial) (first | (go_at_call 24; refine RQ.out.mono ?_; rintro e w5 ⟨rd, s1, s2, s3, p0, p1, q0, q1, q2, q3, q4, q5, q6, rfl, hrow, t1, t2, t3, hb5⟩))
    have HT := Lib.hid (And.intro t1 (And.intro t2 t3))
    have HRow := Lib.hid hrow
    have HB5 := Lib.hid (HB4.out.drew.trans (hb5.mono HB4.out.drew.size))
    obtain ⟨x1, y1, rfl, _⟩ := t1
    obtain ⟨x2, y2, rfl, _⟩ := t2
    obtain ⟨x3, y3, rfl, _⟩ := t3
    have c2 : w5.cell? ⟨rd, 2, none⟩ = some (.int .u8 op) := by rw [Lib.cell_of_heap hrow]; rfl
    have c3 : w5.cell? ⟨rd, 3, none⟩ = some (.int .u8 dt) := by rw [Lib.cell_of_heap hrow]; rfl
    have c4 : w5.cell? ⟨rd, 4, none⟩ = some (.int .u16 vb) := by rw [Lib.cell_of_heap hrow]; rfl
    have c5 : w5.cell? ⟨rd, 5, none⟩ = some (.int .u32 oq) := by rw [Lib.cell_of_heap hrow]; rfl
    have c6 : w5.cell? ⟨rd, 6, none⟩ = some (.int .u64 cas) := by rw [Lib.cell_of_heap hrow]; rfl
    have c7 : w5.cell? ⟨rd, 7, none⟩ = some (.slice x1 le.length y1) := by rw [Lib.cell_of_heap hrow]; rfl
    have c8 : w5.cell? ⟨rd, 8, none⟩ = some (.slice x2 lk.length y2) := by rw [Lib.cell_of_heap hrow]; rfl
    have c9 : w5.cell? ⟨rd, 9, none⟩ = some (.slice x3 lv.length y3) := by rw [Lib.cell_of_heap hrow]; rfl
    have c10 : w5.cell? ⟨rd, 10, none⟩ = some (.bool (!fitB (le.length + lk.length + lv.length) N)) := by rw [Lib.cell_of_heap hrow]; rfl
    obtain ⟨r1, r2, r3⟩ := HR.out w5 HB5.out
    have S1 := Lib.hid (same_eq le _ _ w5 HT.out.1.row r1 (by omega))
    have S2 := Lib.hid (fun n => same_eq lk _ _ (w5.drewN n) (HT.out.2.1.row.drewN n) (r2.drewN n) (by omega))
    have S3 := Lib.hid (fun n => same_eq lv _ _ (w5.drewN n) (HT.out.2.2.row.drewN n) (r3.drewN n) (by omega))
    clear hrow hb5 r1 r2 r3
    go_wp2_with fail
    refine S1.out.mono ?_
    rintro e w6 ⟨rfl, m1, rfl⟩
    go_wp2_with fail
    refine (S2.out _).mono ?_
    rintro e w7 ⟨rfl, m2, rfl⟩
    go_wp2_with fail
    refine (S3.out _).mono ?_
    rintro e w8 ⟨rfl, m3, rfl⟩
    by_cases hown : 24 + (le.length + lk.length + lv.length) ≤ N
    · have hfb : fitB (le.length + lk.length + lv.length) N = true := decide_eq_true hown
      have c11 : w5.cell? ⟨rd, 10, none⟩ = some (.bool false) := by rw [c10, hfb]; rfl
      clear c10 hfb
      go_wp2_with fail
      go_ret
      refine ⟨?_, HB5.out.trans (below_drewN' _ _ _)⟩
      show Ending.returned (.bool (!decide ((N : Int) < 24 + ((le.length : Int) + lk.length + lv.length)))) = _
      rw [decide_eq_false (by omega)]
      rfl
    · have hfb : fitB (le.length + lk.length + lv.length) N = false := decide_eq_false hown
      have c11 : w5.cell? ⟨rd, 10, none⟩ = some (.bool true) := by rw [c10, hfb]; rfl
      clear c10 hfb
      go_wp2_with fail
      go_ret
      refine ⟨?_, HB5.out.trans (below_drewN' _ _ _)⟩
      show Ending.returned (.bool (decide ((N : Int) < 24 + ((le.length : Int) + lk.length + lv.length)))) = _
      rw [decide_eq_true (by omega)]
  · generalize hL : 24 + (le.length + lk.length + lv.length) = L at *
    have rq := requestOf_any (outHdr op dt vb oq cas le.length lk.length lv.length) HFi.out N g cap 24 (cap - 24) le lk lv w4.drew rfl rfl ⟨fun i v hv => HH4.out.s i v hv⟩ (fun i v hv => HS4.out i v hv) HG4.out (by omega) (by omega) he hk n3 hlo hhi
    rw [show le.length + lk.length + lv.length = L - 24 by omega] at rq
    have RQ := Lib.hid rq
    have HL := Lib.hid hL
    have i1 : (24 : Int) ≤ (cap : Int) := by omega
    have i2 : (L : Int) ≤ (cap : Int) := by omega
    have i3 : (24 : Int) ≤ (L : Int) := by omega
    clear rq hL
    go_wp2_with fail
    go_region_held3 (fun _ => True) (trivial) (first | (go_at_call 24; refine RQ.out.mono ?_; rintro e w5 ⟨rd, s1, s2, s3, p0, p1, q0, q1, q2, q3, q4, q5, q6, rfl, hrow, t1, t2, t3, hb5⟩))
    have HT := Lib.hid (And.intro t1 (And.intro t2 t3))
    have HRow := Lib.hid hrow
    have HB5 := Lib.hid (HB4.out.drew.trans (hb5.mono HB4.out.drew.size))
    obtain ⟨x1, y1, rfl, _⟩ := t1
    obtain ⟨x2, y2, rfl, _⟩ := t2
    obtain ⟨x3, y3, rfl, _⟩ := t3
    have c2 : w5.cell? ⟨rd, 2, none⟩ = some (.int .u8 op) := by rw [Lib.cell_of_heap hrow]; rfl
    have c3 : w5.cell? ⟨rd, 3, none⟩ = some (.int .u8 dt) := by rw [Lib.cell_of_heap hrow]; rfl
    have c4 : w5.cell? ⟨rd, 4, none⟩ = some (.int .u16 vb) := by rw [Lib.cell_of_heap hrow]; rfl
    have c5 : w5.cell? ⟨rd, 5, none⟩ = some (.int .u32 oq) := by rw [Lib.cell_of_heap hrow]; rfl
    have c6 : w5.cell? ⟨rd, 6, none⟩ = some (.int .u64 cas) := by rw [Lib.cell_of_heap hrow]; rfl
    have c7 : w5.cell? ⟨rd, 7, none⟩ = some (.slice x1 le.length y1) := by rw [Lib.cell_of_heap hrow]; rfl
    have c8 : w5.cell? ⟨rd, 8, none⟩ = some (.slice x2 lk.length y2) := by rw [Lib.cell_of_heap hrow]; rfl
    have c9 : w5.cell? ⟨rd, 9, none⟩ = some (.slice x3 lv.length y3) := by rw [Lib.cell_of_heap hrow]; rfl
    have c10 : w5.cell? ⟨rd, 10, none⟩ = some (.bool (!fitB (le.length + lk.length + lv.length) N)) := by rw [Lib.cell_of_heap hrow]; rfl
    obtain ⟨r1, r2, r3⟩ := HR.out w5 HB5.out
    have S1 := Lib.hid (same_eq le _ _ w5 HT.out.1.row r1 (by omega))
    have S2 := Lib.hid (fun n => same_eq lk _ _ (w5.drewN n) (HT.out.2.1.row.drewN n) (r2.drewN n) (by omega))
    have S3 := Lib.hid (fun n => same_eq lv _ _ (w5.drewN n) (HT.out.2.2.row.drewN n) (r3.drewN n) (by omega))
    clear hrow hb5 r1 r2 r3
    go_wp2_with fail
    refine S1.out.mono ?_
    rintro e w6 ⟨rfl, m1, rfl⟩
    go_wp2_with fail
    refine (S2.out _).mono ?_
    rintro e w7 ⟨rfl, m2, rfl⟩
    go_wp2_with fail
    refine (S3.out _).mono ?_
    rintro e w8 ⟨rfl, m3, rfl⟩
    by_cases hown : 24 + (le.length + lk.length + lv.length) ≤ N
    · have hfb : fitB (le.length + lk.length + lv.length) N = true := decide_eq_true hown
      have c11 : w5.cell? ⟨rd, 10, none⟩ = some (.bool false) := by rw [c10, hfb]; rfl
      clear c10 hfb
      go_wp2_with fail
      go_ret
      refine ⟨?_, HB5.out.trans (below_drewN' _ _ _)⟩
      show Ending.returned (.bool (!decide ((N : Int) < 24 + ((le.length : Int) + lk.length + lv.length)))) = _
      rw [decide_eq_false (by omega)]
      rfl
    · have hfb : fitB (le.length + lk.length + lv.length) N = false := decide_eq_false hown
      have c11 : w5.cell? ⟨rd, 10, none⟩ = some (.bool true) := by rw [c10, hfb]; rfl
      clear c10 hfb
      go_wp2_with fail
      go_ret
      refine ⟨?_, HB5.out.trans (below_drewN' _ _ _)⟩
      show Ending.returned (.bool (decide ((N : Int) < 24 + ((le.length : Int) + lk.length + lv.length)))) = _
      rw [decide_eq_true (by omega)]
end Go.Proofs.Qxb6615679aFmt
