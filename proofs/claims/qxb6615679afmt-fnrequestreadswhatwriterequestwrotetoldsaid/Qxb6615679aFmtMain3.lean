/-
  The law's function 3 (FnWriteRequestParsesBack), walked.
-/
import Derived.Test.Qxb6615679aFmtLaw
namespace Go.Proofs.Qxb6615679aFmt
open Go.RowKit Go.Stop

theorem packet_length (op dt vb oq cas : Nat) (le lk lv : List UInt8) : (packet op dt vb oq cas le lk lv).length = 24 + (le.length + lk.length + lv.length) := by
  unfold packet
  rw [List.length_append, List.length_append, List.length_append, Hdr.bytes_length]
  omega
/-- what zzwr hands out where nothing was refused -/
theorem outIs_packet {v : Value} {op dt vb oq cas : Nat} {le lk lv : List UInt8} {w : World} (h : OutIs v (packet op dt vb oq cas le lk lv) w) :
    ∃ g cap, v = .slice (some ⟨g, 0, none⟩) (24 + (le.length + lk.length + lv.length)) cap ∧ g < w.heap.size ∧ 24 + (le.length + lk.length + lv.length) ≤ cap ∧ cap ≤ maxLen ∧ HdrAt g (outHdr op dt vb oq cas le.length lk.length lv.length) w ∧ SrcAt g 24 (le ++ lk ++ lv) w := by
  have hl := packet_length op dt vb oq cas le lk lv
  rcases h with ⟨_, h⟩ | ⟨g, cap, h0, h1, h2, h3, h4⟩
  · rw [h] at hl
    exact absurd hl (by simp only [List.length_nil]; omega)
  · rw [hl] at h0 h2
    refine ⟨g, cap, h0, h1, h2, h3, ?_, ?_⟩
    · unfold packet at h4
      exact ⟨SrcAt.left (SrcAt.left (SrcAt.left h4))⟩
    · unfold packet at h4
      rw [List.append_assoc, List.append_assoc, ← List.append_assoc le] at h4
      have := SrcAt.right h4 (Hdr.bytes_length _)
      rwa [Nat.zero_add] at this
theorem outHdr_fits {op dt vb oq cas le lk lv : Nat} (hop : op < 256) (hdt : dt < 256) (hvb : vb < 65536) (hoq : oq < 4294967296) (hcas : cas < 18446744073709551616) (he : le ≤ 255) (hk : lk ≤ 250) (hv : lv ≤ 1048576) : (outHdr op dt vb oq cas le lk lv).fits := by
  constructor <;> simp only [outHdr] <;> omega

set_option maxHeartbeats 2000000 in
set_option maxRecDepth 100000 in
/-- beyond the limits of the law: true at once -/
theorem fn3_early (size : Int) (op dt vb oq cas : Nat) (ae ak av : Option Addr) (ne nk nv ce ck cv : Nat) (w : World) (h : ¬ ne + nk + nv ≤ 1048576 ∨ ¬ size ≤ 65536) :
    Calls Tryf.prog 3 #[.int .i64 size, .int .u8 op, .int .u8 dt, .int .u16 vb, .int .u32 oq, .int .u64 cas, .slice ae ne ce, .slice ak nk ck, .slice av nv cv] w fun e w' => e = .returned (.bool true) ∧ Below w.heap.size w w' := by
  by_cases hsum : ne + nk + nv ≤ 1048576
  · have hsz : ¬ size ≤ 65536 := h.resolve_left (fun k => k hsum)
    have hb := bytesB_true hsum
    go_enter Tryf.func3, Tryf.ntmps3
    go_wp2_with (go_at_call 9; refine (bytes_any _ _ _ _ _ _ _ _ _ _ _ _ _ _ _ _).mono ?_; rintro e w1 ⟨rfl, rfl⟩; rw [hb])
    go_ret
    exact ⟨rfl, Below.refl _ _⟩
  · have hb := bytesB_false hsum
    go_enter Tryf.func3, Tryf.ntmps3
    go_wp2_with (go_at_call 9; refine (bytes_any _ _ _ _ _ _ _ _ _ _ _ _ _ _ _ _).mono ?_; rintro e w1 ⟨rfl, rfl⟩; rw [hb])
    go_ret
    exact ⟨rfl, Below.refl _ _⟩

set_option maxHeartbeats 2000000 in
set_option maxRecDepth 100000 in
theorem fn3_refused (F : Interp) (size : Int) (op dt vb oq cas : Nat) (ae ak av : Option Addr) (ne nk nv ce ck cv : Nat) (w : World) (hF : F.answers w.tape) (hsum : ne + nk + nv ≤ 1048576) (hsz : size ≤ 65536)
    (hbad : ¬ (ne ≤ 255 ∧ nk ≤ 250 ∧ nv ≤ 1048576)) :
    Calls Tryf.prog 3 #[.int .i64 size, .int .u8 op, .int .u8 dt, .int .u16 vb, .int .u32 oq, .int .u64 cas, .slice ae ne ce, .slice ak nk ck, .slice av nv cv] w fun e w' => e = .returned (.bool true) ∧ Below w.heap.size w w' := by
  have hb := bytesB_true hsum
  have hw := wireB_false hbad
  have n1 : ne ≤ 1048576 := by omega
  have n2 : nk ≤ 1048576 := by omega
  have n3 : nv ≤ 1048576 := by omega
  obtain ⟨W1, hW1⟩ : ∃ W1, W1 = w.alloc (.cells #[.int .u8 op, .int .u8 dt, .int .u16 vb, .int .u32 oq, .int .u64 cas, .slice ae ne ce, .slice ak nk ck, .slice av nv cv, .bool false] 30) := ⟨_, rfl⟩
  have hB : Below w.heap.size w W1 := by rw [hW1]; exact (Below.refl _ _).alloc (Nat.le_refl _) _
  have hW := zzwr_refused F size w.heap.size op dt vb oq cas ae ak av ne nk nv ce ck cv W1 (by rw [hB.tape]; exact hF) hsz (by rw [hW1]; exact heap_alloc_new w _) (by rw [hW1]; simp) (by omega) (by omega) (by omega) (by omega)
  have HW := Lib.hid hW
  have HB := Lib.hid hB
  have HW1 := Lib.hid hW1
  clear hW hB hW1 hbad hF
  go_enter Tryf.func3, Tryf.ntmps3
  go_wp2_with (go_at_call 9; refine (bytes_any _ _ _ _ _ _ _ _ _ _ _ _ _ _ _ _).mono ?_; rintro e w1 ⟨rfl, rfl⟩; rw [hb])
  rw [← HW1.out]
  refine HW.out.mono ?_
  rintro e w2 ⟨v, rfl, ho, hb2⟩
  have HB2 := Lib.hid hb2
  clear hb2
  rcases ho with ⟨rfl, _⟩ | ⟨g, cap, rfl, _⟩
  · go_wp2_with (go_at_call 11; refine (wireOK_any _ _ _ _ _ _ _ _ _ _).mono ?_; rintro e w3 ⟨rfl, rfl⟩; rw [hw])
    go_ret
    exact ⟨rfl, HB.out.trans (HB2.out.mono HB.out.size)⟩
  · go_wp2_with (go_at_call 11; refine (wireOK_any _ _ _ _ _ _ _ _ _ _).mono ?_; rintro e w3 ⟨rfl, rfl⟩; rw [hw])
    go_ret
    exact ⟨rfl, HB.out.trans (HB2.out.mono HB.out.size)⟩

set_option maxHeartbeats 4000000 in
set_option maxRecDepth 100000 in
theorem fn3_ok (size : Int) (op dt vb oq cas : Nat) (ev kv vv : Value) (le lk lv : List UInt8) (w : World) (se : SrcV w.heap.size ev le w) (sk : SrcV w.heap.size kv lk w) (sv : SrcV w.heap.size vv lv w)
    (hsum : le.length + lk.length + lv.length ≤ 1048576) (hsz : size ≤ 65536) (he : le.length ≤ 255) (hk : lk.length ≤ 250) (hop : op < 256) (hdt : dt < 256) (hvb : vb < 65536) (hoq : oq < 4294967296) (hcas : cas < 18446744073709551616) :
    Calls Tryf.prog 3 #[.int .i64 size, .int .u8 op, .int .u8 dt, .int .u16 vb, .int .u32 oq, .int .u64 cas, ev, kv, vv] w fun e w' => e = .returned (.bool true) ∧ Below w.heap.size w w' := by
  have hb := bytesB_true hsum
  have hw := wireB_true (ne := le.length) (nk := lk.length) (nv := lv.length) ⟨he, hk, by omega⟩
  have n3 : lv.length ≤ 1048576 := by omega
  have hfits := outHdr_fits hop hdt hvb hoq hcas he hk n3
  obtain ⟨W1, hW1⟩ : ∃ W1, W1 = w.alloc (.cells #[.int .u8 op, .int .u8 dt, .int .u16 vb, .int .u32 oq, .int .u64 cas, ev, kv, vv, .bool false] 30) := ⟨_, rfl⟩
  have hB : Below w.heap.size w W1 := by rw [hW1]; exact (Below.refl _ _).alloc (Nat.le_refl _) _
  have hW := zzwr_ok size w.heap.size op dt vb oq cas w.heap.size ev kv vv le lk lv W1 hsz hB.size (by rw [hW1]; exact heap_alloc_new w _) (by rw [hW1]; simp) (se.below hB (Nat.le_refl _)) (sk.below hB (Nat.le_refl _)) (sv.below hB (Nat.le_refl _)) he hk n3 hop hdt hvb hoq hcas
  have hrows : ∀ W, Below w.heap.size w W → RowOf ev le W ∧ RowOf kv lk W ∧ RowOf vv lv W := fun W h => ⟨(se.below h (Nat.le_refl _)).row, (sk.below h (Nat.le_refl _)).row, (sv.below h (Nat.le_refl _)).row⟩
  obtain ⟨ae, ce, rfl, _⟩ := se.ex
  obtain ⟨ak, ck, rfl, _⟩ := sk.ex
  obtain ⟨av, cv, rfl, _⟩ := sv.ex
  have HW := Lib.hid hW
  have HB := Lib.hid hB
  have HW1 := Lib.hid hW1
  have HR := Lib.hid hrows
  have HFi := Lib.hid hfits
  clear hW hB hW1 hrows hfits se sk sv
  go_enter Tryf.func3, Tryf.ntmps3
  go_wp2_with (go_at_call 9; refine (bytes_any _ _ _ _ _ _ _ _ _ _ _ _ _ _ _ _).mono ?_; rintro e w1 ⟨rfl, rfl⟩; rw [hb])
  rw [← HW1.out]
  refine HW.out.mono ?_
  rintro e w2 ⟨v, rfl, ho, hb2⟩
  obtain ⟨g, cap, rfl, hg, hcap, hmax, hH, hS⟩ := outIs_packet ho
  have HB2 := Lib.hid (HB.out.trans (hb2.mono HB.out.size))
  have HS := Lib.hid hS
  have HP := Lib.hid (headerOf_any _ HFi.out g cap w2 hH hg (by omega))
  have HG := Lib.hid hg
  clear hb2 ho hH hS hg
  go_wp2_with (go_at_call 11; refine (wireOK_any _ _ _ _ _ _ _ _ _ _).mono ?_; rintro e w3 ⟨rfl, rfl⟩; rw [hw])
  refine HP.out.mono ?_
  rintro e w4 ⟨rfl, hb4⟩
  simp only [Hdr.cells, outHdr]
  have HB4 := Lib.hid (HB2.out.trans (hb4.mono HB2.out.size))
  have HS4 := Lib.hid (HS.out.below hb4 HG.out)
  clear hb4
  by_cases hz : cap = 24
  · have e1 := List.eq_nil_of_length_eq_zero (l := le) (by omega)
    have e2 := List.eq_nil_of_length_eq_zero (l := lk) (by omega)
    have e3 := List.eq_nil_of_length_eq_zero (l := lv) (by omega)
    obtain ⟨r1, r2, r3⟩ := HR.out w4 HB4.out
    have HBo := Lib.hid (body_eq g 0 0 _ _ _ le lk lv w4 (by rw [e1, e2, e3]; intro i v hv; simp [Lib.byteCells] at hv) (by rw [e1, e2, e3]; exact Nat.le_refl _) r1 r2 r3 (by omega) (by omega) n3)
    clear r1 r2 r3 e1 e2 e3
    go_wp2_with fail
    refine HBo.out.mono ?_
    rintro e w5 ⟨rfl, n, rfl⟩
    go_wp2_with fail
    go_ret
    exact ⟨rfl, HB4.out.trans (below_drewN' _ _ _)⟩
  · obtain ⟨r1, r2, r3⟩ := HR.out w4 HB4.out
    have HBo := Lib.hid (body_eq g 24 (cap - 24) _ _ _ le lk lv w4 HS4.out (by omega) r1 r2 r3 (by omega) (by omega) n3)
    clear r1 r2 r3
    go_wp2_with fail
    refine HBo.out.mono ?_
    rintro e w5 ⟨rfl, n, rfl⟩
    go_wp2_with fail
    go_ret
    exact ⟨rfl, HB4.out.trans (below_drewN' _ _ _)⟩
end Go.Proofs.Qxb6615679aFmt
