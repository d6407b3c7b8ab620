/-
  ZZheaderOf, zzSame, zzBodyIs, zzBytes, zzWireOK.
-/
import Derived.Test.Qxb6615679aFmtParse2
namespace Go.Proofs.Qxb6615679aFmt
open Go.RowKit

set_option maxHeartbeats 1000000 in
set_option maxRecDepth 100000 in
theorem headerOf_any (H : Hdr) (hf : H.fits) (g c : Nat) (w : World) (hs : HdrAt g H w) (hg : g < w.heap.size) (hc : 24 ≤ c) :
    Calls Tryf.prog 12 #[.slice (some ⟨g, 0, none⟩) 24 c] w fun e w' => e = .returned (.tuple H.cells) ∧ Below w.heap.size w w' := by
  have HP := Lib.hid (parse_any H hf g c w hs hg hc)
  clear hf hs hg
  go_enter Tryf.func12, Tryf.ntmps12
  go_wp2_with (go_at_call 27; refine HP.out.mono ?_; rintro e wk ⟨rfl, hb⟩; have HB := Lib.hid hb; clear hb; simp only [Hdr.cells])
  go_quiet (fail)
  go_wp2_with fail
  refine bodyPost_ret (v := .tuple H.cells) (by simp [results, Tryf.results12, go_sem, Hdr.cells]) rfl ⟨rfl, ?_⟩
  exact (HB.out.alloc HB.out.size _).trans (below_drewN' _ _ _)

def wireB (ne nk nv : Nat) : Bool := decide (ne ≤ 255 ∧ nk ≤ 250 ∧ nv ≤ 1048576)
theorem wireB_true {ne nk nv : Nat} (h : ne ≤ 255 ∧ nk ≤ 250 ∧ nv ≤ 1048576) : wireB ne nk nv = true := decide_eq_true h
theorem wireB_false {ne nk nv : Nat} (h : ¬ (ne ≤ 255 ∧ nk ≤ 250 ∧ nv ≤ 1048576)) : wireB ne nk nv = false := decide_eq_false h
set_option maxHeartbeats 1000000 in
set_option maxRecDepth 100000 in
theorem wireOK_any (a0 a1 a2 : Option Addr) (ne nk nv c0 c1 c2 : Nat) (w : World) :
    Calls Tryf.prog 11 #[.slice a0 ne c0, .slice a1 nk c1, .slice a2 nv c2] w fun e w' => e = .returned (.bool (wireB ne nk nv)) ∧ w' = w := by
  go_enter Tryf.func11, Tryf.ntmps11
  go_wp2
  all_goals go_ret
  all_goals refine ⟨?_, rfl⟩
  · show Ending.returned (.bool (decide ((nv : Int) ≤ 1048576))) = _
    unfold wireB
    rw [decide_eq_decide.mpr (show (ne ≤ 255 ∧ nk ≤ 250 ∧ nv ≤ 1048576) ↔ ((nv : Int) ≤ 1048576) by omega)]
  · rw [wireB_false (by omega)]; rfl
  · rw [wireB_false (by omega)]; rfl
def bytesB (n : Nat) : Bool := decide (n ≤ 1048576)
theorem bytesB_true {n : Nat} (h : n ≤ 1048576) : bytesB n = true := decide_eq_true h
theorem bytesB_false {n : Nat} (h : ¬ n ≤ 1048576) : bytesB n = false := decide_eq_false h
set_option maxHeartbeats 1000000 in
set_option maxRecDepth 100000 in
theorem bytes_any (x0 x1 x2 x3 x4 x5 : Value) (a0 a1 a2 : Option Addr) (ne nk nv c0 c1 c2 : Nat) (w : World) :
    Calls Tryf.prog 9 #[x0, x1, x2, x3, x4, x5, .slice a0 ne c0, .slice a1 nk c1, .slice a2 nv c2] w fun e w' => e = .returned (.bool (bytesB (ne + nk + nv))) ∧ w' = w := by
  by_cases h0 : 1048576 < ne
  · go_enter Tryf.func9, Tryf.ntmps9
    go_wp2
    go_ret
    exact ⟨by rw [bytesB_false (by omega)]; rfl, rfl⟩
  by_cases h1 : 1048576 < nk
  · go_enter Tryf.func9, Tryf.ntmps9
    go_wp2
    go_ret
    exact ⟨by rw [bytesB_false (by omega)]; rfl, rfl⟩
  by_cases h2 : 1048576 < ne + nk
  · go_enter Tryf.func9, Tryf.ntmps9
    go_wp2
    go_ret
    exact ⟨by rw [bytesB_false (by omega)]; rfl, rfl⟩
  by_cases h3 : 1048576 < nv
  · go_enter Tryf.func9, Tryf.ntmps9
    go_wp2
    go_ret
    exact ⟨by rw [bytesB_false (by omega)]; rfl, rfl⟩
  by_cases h4 : 1048576 < ne + nk + nv
  · go_enter Tryf.func9, Tryf.ntmps9
    go_wp2
    go_ret
    exact ⟨by rw [bytesB_false (by omega)]; rfl, rfl⟩
  go_enter Tryf.func9, Tryf.ntmps9
  go_wp2
  go_ret
  exact ⟨by rw [bytesB_true (by omega)]; rfl, rfl⟩
/-- a row that a slice shows -/
def RowOf (v : Value) (l : List UInt8) (w : World) : Prop := ∃ ao c, v = .slice ao l.length c ∧ (l = [] ∨ ∃ sb o, ao = some ⟨sb, o, none⟩ ∧ SrcAt sb o l w)
theorem RowOf.drewN {v : Value} {l : List UInt8} {w : World} (h : RowOf v l w) (n : Nat) : RowOf v l (w.drewN n) := by
  obtain ⟨ao, c, h0, h1⟩ := h
  refine ⟨ao, c, h0, ?_⟩
  rcases h1 with h1 | ⟨sb, o, h2, h3⟩
  · exact .inl h1
  · exact .inr ⟨sb, o, h2, fun i v hv => h3 i v hv⟩
set_option maxHeartbeats 1000000 in
set_option maxRecDepth 100000 in
theorem same_eq (l : List UInt8) (v1 v2 : Value) (w : World) (h1 : RowOf v1 l w) (h2 : RowOf v2 l w) (hl : l.length ≤ 2 ^ 47) :
    Calls Tryf.prog 21 #[v1, v2] w fun e w' => e = .returned (.bool true) ∧ ∃ n, w' = w.drewN n := by
  obtain ⟨ao, c, rfl, r1⟩ := h1
  obtain ⟨bo, d, rfl, r2⟩ := h2
  go_enter Tryf.func21, Tryf.ntmps21
  go_wp2
  go_loopw [5] (fun i wr => ∃ k n : Nat, k ≤ l.length ∧ i = .int .i64 k ∧ wr = w.drewN n) (fun i _ => l.length - (intOf i).toNat)
  case atStart => exact ⟨0, 0, Nat.zero_le _, rfl, rfl⟩
  case round =>
    obtain ⟨k, n, hk, rfl, rfl⟩ := hrel
    by_cases hlt : k < l.length
    · obtain ⟨sa, oa, rfl, ha⟩ := r1.resolve_left (by intro e; rw [e] at hlt; exact absurd hlt (Nat.not_lt_zero _))
      obtain ⟨sb, ob, rfl, hb⟩ := r2.resolve_left (by intro e; rw [e] at hlt; exact absurd hlt (Nat.not_lt_zero _))
      have ka : w.cell? ⟨sa, oa + k, none⟩ = some (.int .u8 (l[k].toNat : Nat)) := src_cell ha k hlt
      have kb : w.cell? ⟨sb, ob + k, none⟩ = some (.int .u8 (l[k].toNat : Nat)) := src_cell hb k hlt
      clear ha hb r1 r2
      go_wp2_with fail
      go_quiet (fail)
      go_wp2_with fail
      exact ⟨⟨k + 1, _, hlt, rfl, rfl⟩, by simp only [intOf]; omega⟩
    · go_wp2_with fail
      go_ret
      exact ⟨rfl, n, rfl⟩

theorem SrcV.row {B : Nat} {v : Value} {l : List UInt8} {w : World} (h : SrcV B v l w) : RowOf v l w := by
  obtain ⟨ao, c, h0, _, _, h1⟩ := h
  refine ⟨ao, c, h0, ?_⟩
  rcases h1 with ⟨e, _, _⟩ | ⟨sb, o, e, _, hs⟩
  · exact .inl e
  · exact .inr ⟨sb, o, e, hs⟩
theorem rowOf_at {g o : Nat} {l : List UInt8} {w : World} (h : SrcAt g o l w) {n : Nat} (hn : n = l.length) (c : Nat) : RowOf (.slice (some ⟨g, o, none⟩) n c) l w := ⟨_, c, by rw [hn], .inr ⟨g, o, rfl, h⟩⟩
theorem rowOf_nil (ao : Option Addr) (c : Nat) {n : Nat} (hn : n = 0) {l : List UInt8} (hl : l = []) (w : World) : RowOf (.slice ao n c) l w := ⟨ao, c, by rw [hn, hl]; rfl, .inl hl⟩

set_option maxHeartbeats 1000000 in
set_option maxRecDepth 100000 in
theorem body_eq (g o c : Nat) (ev kv vv : Value) (le lk lv : List UInt8) (w : World) (hs : SrcAt g o (le ++ lk ++ lv) w) (hc : le.length + lk.length + lv.length ≤ c) (re : RowOf ev le w) (rk : RowOf kv lk w) (rv : RowOf vv lv w)
    (b0 : le.length ≤ 1048576) (b1 : lk.length ≤ 1048576) (b2 : lv.length ≤ 1048576) :
    Calls Tryf.prog 13 #[.slice (some ⟨g, o, none⟩) (le.length + lk.length + lv.length) c, ev, kv, vv] w fun e w' => e = .returned (.bool true) ∧ ∃ n, w' = w.drewN n := by
  have H1 := Lib.hid (fun c' => rowOf_at (SrcAt.left (SrcAt.left hs)) rfl c')
  have H2 := Lib.hid (fun c' => rowOf_at (SrcAt.right (SrcAt.left hs) rfl) rfl c')
  have H3 := Lib.hid (fun c' => rowOf_at (SrcAt.right hs (n := le.length + lk.length) (by rw [List.length_append])) rfl c')
  have RE := Lib.hid re
  have RK := Lib.hid rk
  have RV := Lib.hid rv
  obtain ⟨ae, ce, rfl, _⟩ := re
  obtain ⟨ak, ck, rfl, _⟩ := rk
  obtain ⟨av, cv, rfl, _⟩ := rv
  clear hs
  go_enter Tryf.func13, Tryf.ntmps13
  go_wp2_with fail
  refine (same_eq le _ _ w (H1.out _) RE.out (by omega)).mono ?_
  rintro e w1 ⟨rfl, n1, rfl⟩
  by_cases e1 : c = le.length
  · have z1 : lk.length = 0 := by omega
    have z2 : lv.length = 0 := by omega
    have l1 := List.eq_nil_of_length_eq_zero z1
    have l2 := List.eq_nil_of_length_eq_zero z2
    clear RK RV H2 H3
    go_wp2_with fail
    refine (same_eq [] _ _ (w.drewN n1) (rowOf_nil _ _ rfl rfl _) (rowOf_nil _ _ rfl rfl _) (Nat.zero_le _)).mono ?_
    rintro e w2 ⟨rfl, n2, rfl⟩
    go_wp2_with fail
    refine (same_eq [] _ _ (w.drewN (n1 + n2)) (rowOf_nil _ _ rfl rfl _) (rowOf_nil _ _ rfl rfl _) (Nat.zero_le _)).mono ?_
    rintro e w3 ⟨rfl, n3, rfl⟩
    go_wp2_with fail
    go_ret
    exact ⟨rfl, _, rfl⟩
  · go_wp2_with fail
    refine (same_eq lk _ _ (w.drewN n1) ((H2.out _).drewN n1) (RK.out.drewN n1) (by omega)).mono ?_
    rintro e w2 ⟨rfl, n2, rfl⟩
    by_cases e2 : c = le.length + lk.length
    · have z2 : lv.length = 0 := by omega
      have l2 := List.eq_nil_of_length_eq_zero z2
      clear RV H3
      go_wp2_with fail
      refine (same_eq [] _ _ (w.drewN (n1 + n2)) (rowOf_nil _ _ rfl rfl _) (rowOf_nil _ _ rfl rfl _) (Nat.zero_le _)).mono ?_
      rintro e w3 ⟨rfl, n3, rfl⟩
      go_wp2_with fail
      go_ret
      exact ⟨rfl, _, rfl⟩
    · go_wp2_with fail
      refine (same_eq lv _ _ (w.drewN (n1 + n2)) ((H3.out _).drewN (n1 + n2)) (RV.out.drewN (n1 + n2)) (by omega)).mono ?_
      rintro e w3 ⟨rfl, n3, rfl⟩
      go_wp2_with fail
      go_ret
      exact ⟨rfl, _, rfl⟩

end Go.Proofs.Qxb6615679aFmt
