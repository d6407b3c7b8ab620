/-
  ZZrequestOf.
-/
import Derived.Test.Qxb6615679aFmtRead
namespace Go.Proofs.Qxb6615679aFmt
open Go.RowKit Go.Stop

set_option maxHeartbeats 2000000 in
set_option maxRecDepth 100000 in
theorem requestOf_any (H : Hdr) (hf : H.fits) (N g c o c' : Nat) (le lk lv : List UInt8) (w : World) (he : H.el = le.length) (hk : H.kl = lk.length) (hh : HdrAt g H w) (hs : SrcAt g o (le ++ lk ++ lv) w) (hg : g < w.heap.size) (hc : 24 ≤ c) (hc' : le.length + lk.length + lv.length ≤ c')
    (b0 : le.length ≤ 255) (b1 : lk.length ≤ 250) (b2 : lv.length ≤ 1048576) (h0 : 16 ≤ N) (h1 : N ≤ 65536) :
    Calls Tryf.prog 24 #[.int .i64 N, .slice (some ⟨g, 0, none⟩) 24 c, .slice (some ⟨g, o, none⟩) (le.length + lk.length + lv.length) c'] w fun e w' => ∃ (rd : Nat) (s1 s2 s3 p0 p1 q0 q1 q2 q3 q4 q5 q6 : Value), e = .returned (.pointer (some ⟨rd, 2, none⟩)) ∧
      w'.heap[rd]? = some (.cells #[p0, p1, .int .u8 H.op, .int .u8 H.dt, .int .u16 H.f6, .int .u32 H.oq, .int .u64 H.cas, s1, s2, s3, .bool (!fitB H.bl N), q0, q1, q2, q3, q4, q5, q6] 79 (0, 0)) ∧
      RowB w.heap.size s1 le w' ∧ RowB w.heap.size s2 lk w' ∧ RowB w.heap.size s3 lv w' ∧ Below w.heap.size w w' := by
  have HN := Lib.hid (newReader_any N w h0 h1)
  have HH := Lib.hid hh
  have HS := Lib.hid hs
  have HF := Lib.hid hf
  have HE := Lib.hid he
  have HK := Lib.hid hk
  clear hh hs hf he hk
  go_enter Tryf.func24, Tryf.ntmps24
  go_wp2_with fail
  refine HN.out.mono ?_
  rintro e W1 ⟨rfl, c1, l1, hb1⟩
  have C1 := Lib.hid c1
  have B1 := Lib.hid hb1
  clear c1 hb1
  go_wp2_with fail
  refine (reader_any w.heap.size W1).mono ?_
  rintro e W2 ⟨rfl, hW2⟩
  have B2 : Below W1.heap.size W1 W2 := by rw [hW2]; exact (Below.refl _ _).alloc (Nat.le_refl _) _
  have z2 : W2.heap.size = W1.heap.size + 1 := by rw [hW2]; simp
  have R2 : W2.heap[W1.heap.size]? = some (.cells #[.pointer (some ⟨w.heap.size, 0, none⟩), .func (.func 51) #[] #[], .int .u8 0, .int .u8 0, .int .u16 0, .int .u32 0, .int .u64 0, .slice none 0 0, .slice none 0 0, .slice none 0 0, .bool false, .int .u8 0, .int .u16 0, .int .u32 0, .int .u64 0, .slice none 0 0, .slice none 0 0, .slice none 0 0] 79 (0, 0)) := by rw [hW2]; exact heap_alloc_new W1 _
  have B12 : Below w.heap.size w W2 := B1.out.trans (B2.mono B1.out.size)
  have P2 := Lib.hid (parse_any H HF.out g c W2 (HH.out.below B12 hg) (by omega) hc)
  have HB2 := Lib.hid B2
  have HZ2 := Lib.hid z2
  have HR2 := Lib.hid R2
  have HB12 := Lib.hid B12
  clear B2 z2 R2 B12 hW2
  go_wp2_with fail
  refine P2.out.mono ?_
  rintro e W3 ⟨rfl, hb3⟩
  have z3 := HZ2.out
  have B13 : Below w.heap.size w W3 := HB12.out.trans (hb3.mono HB12.out.size)
  have hR3 := (hb3.block W1.heap.size (by omega)).trans HR2.out
  have hC3 : W3.cell? ⟨w.heap.size, 0, none⟩ = some (.slice (some ⟨w.heap.size + 1, 0, none⟩) N N) := by
    rw [hb3.cell (p := ⟨w.heap.size, 0, none⟩) (by show w.heap.size < _; omega), HB2.out.cell (p := ⟨w.heap.size, 0, none⟩) l1]
    exact C1.out
  have hsz3 := hb3.size
  have RQ := Lib.hid (readRequest_any w.heap.size H HF.out W1.heap.size w.heap.size N g o c' _ _ _ _ _ _ _ _ _ _ _ _ _ _ _ _ _ _ le lk lv W3 HE.out HK.out (HS.out.below B13 hg) hg (by omega) hc' b0 b1 b2 h1 hR3 hC3 (by omega) (by omega))
  have HB13 := Lib.hid B13
  have HB1s := Lib.hid B1.out.size
  clear B13 hR3 hC3 hsz3 hb3 z3
  go_wp2_with fail
  refine RQ.out.mono ?_
  rintro e W4 ⟨s1, s2, s3, rfl, hr4, t1, t2, t3, hb4⟩
  have HX := Lib.hid hr4
  have HT := Lib.hid (And.intro t1 (And.intro t2 t3))
  have HB4 := Lib.hid hb4
  clear hr4 t1 t2 t3 hb4
  go_wp2_with fail
  go_ret
  exact ⟨_, s1, s2, s3, _, _, _, _, _, _, _, _, _, rfl, HX.out, HT.out.1, HT.out.2.1, HT.out.2.2, HB13.out.trans (HB4.out.mono HB1s.out)⟩
end Go.Proofs.Qxb6615679aFmt
