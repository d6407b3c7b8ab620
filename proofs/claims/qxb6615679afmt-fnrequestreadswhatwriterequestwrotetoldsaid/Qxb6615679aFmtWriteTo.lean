/-
  (*bufio.Writer).Write over this program.
-/
import Derived.Test.Qxb6615679aFmtWriter
namespace Go.Proofs.Qxb6615679aFmt
open Go.RowKit

theorem BufIs.of_blocks {b Z : Nat} {bs : List Value} {w w' : World} (h : BufIs b Z bs w) (hb : w'.heap[b]? = w.heap[b]?) (hr : ∀ g, Z ≤ g → w'.heap[g]? = w.heap[g]?) : BufIs b Z bs w' := by
  obtain ⟨ao, cap, lr, k1, k2, k3⟩ := h
  refine ⟨ao, cap, lr, by rw [hb]; exact k1, k2, ?_⟩
  rcases k3 with k3 | ⟨l0, g, cur, e1, hZg, hg, rest⟩
  · exact .inl k3
  · exact .inr ⟨l0, g, cur, e1, hZg, by rw [hr g hZg]; exact hg, rest⟩

/-- new bytes in the row and a new count -/
theorem WrIs.put {Z bx bb bw N : Nat} {out pend pend' : List UInt8} {w : World} {cur cs : Array Value} (h : WrIs Z bx bb bw N out pend w) (hr : w.heap[bb]? = some (.cells cur 5 (0, 0))) (hs : cs.size = N) (ht : cs.toList.take pend'.length = Lib.byteCells pend') (hle : pend'.length ≤ N)
    {k : Int} (hk : k = (pend'.length : Int)) :
    WrIs Z bx bb bw N out pend' ((w.setRow bb cs).setCell ⟨bw, 2, none⟩ (.int .i64 k)) := by
  subst hk
  have lb := h.lb
  have lw := h.lw
  refine ⟨h.buf.of_blocks ?_ ?_, h.lb, h.lw, h.xb, h.xw, h.nbw, h.pos, h.lim, ?_, cs, ?_, hs, ht, hle⟩
  · rw [Below.heap_setCell _ _ _ _ (by exact h.xw), setRow_other _ _ _ _ h.xb]
  · intro g hg
    rw [Below.heap_setCell _ _ _ _ (by show g ≠ bw; omega), setRow_other _ _ _ _ (by omega)]
  · rw [Lib.heap_setCell_same (by rw [setRow_other _ _ _ _ (Ne.symm h.nbw)]; exact h.st)]
    rfl
  · rw [Below.heap_setCell _ _ _ _ (by exact h.nbw)]
    exact setRow_heap w bb cur cs 5 (0, 0) hr

theorem take_put {cur : Array Value} {pend p : List UInt8} {N : Nat} (hs : cur.size = N) (ht : cur.toList.take pend.length = Lib.byteCells pend) (hle : pend.length + p.length ≤ N) :
    (cur.toList.take pend.length ++ (Lib.byteCells p ++ cur.toList.drop (pend.length + p.length))).toArray.size = N ∧
    (cur.toList.take pend.length ++ (Lib.byteCells p ++ cur.toList.drop (pend.length + p.length))).toArray.toList.take (pend ++ p).length = Lib.byteCells (pend ++ p) := by
  rw [ht, byteCells_append]
  constructor
  · simp only [List.size_toArray, List.length_append, List.length_drop, Array.length_toList, byteCells_length]; omega
  · show (Lib.byteCells pend ++ (Lib.byteCells p ++ _)).take _ = _
    rw [← List.append_assoc]
    exact List.take_left' (by rw [List.length_append, List.length_append, byteCells_length, byteCells_length])

set_option maxHeartbeats 2000000 in
set_option maxRecDepth 100000 in
theorem write_fit (Z bx bb bw N : Nat) (out pend : List UInt8) (sb o c : Nat) (p : List UInt8) (w : World) (h : WrIs Z bx bb bw N out pend w) (hfit : p.length ≤ N - pend.length) (hsrc : SrcAt sb o p w) :
    Calls Tryf.prog 46 #[.pointer (some ⟨bw, 0, none⟩), .slice (some ⟨sb, o, none⟩) p.length c] w fun e w' => e = .returned (.tuple #[.int .i64 p.length, .nilIface]) ∧ WrIs Z bx bb bw N out (pend ++ p) w' ∧ Fr Z [bx, bb, bw] w w' := by
  have hinfo : (Tryf.prog.info? 5).map (·.size) = some 1 := by kernel_rfl
  have hN := h.lim
  obtain ⟨cur, hrow, hcs, htk, hle⟩ := h.row
  have c0 : w.cell? ⟨bw, 0, none⟩ = some .nilIface := by rw [Lib.cell_of_heap h.st]; rfl
  have c1 : w.cell? ⟨bw, 1, none⟩ = some (.slice (some ⟨bb, 0, none⟩) N N) := by rw [Lib.cell_of_heap h.st]; rfl
  have c2 : w.cell? ⟨bw, 2, none⟩ = some (.int .i64 pend.length) := by rw [Lib.cell_of_heap h.st]; rfl
  have f2 : w.frozen? ⟨bw, 2, none⟩ = false := Lib.frozen_of_heap h.st 2
  have hfit' : (p.length : Int) ≤ ((N - pend.length : Nat) : Int) := by omega
  have hN' : (N : Int) ≤ 65536 := by omega
  have hp : (pend.length : Int) ≤ (N : Int) := by omega
  have H := Lib.hid h
  clear h
  go_enter Tryf.func46, Tryf.ntmps46
  go_wp2
  go_loopw [1, 4] (fun s nn wr => s = .slice (some ⟨sb, o, none⟩) p.length c ∧ nn = .int .i64 0 ∧ w = wr) (fun _ _ _ => 0)
  case atStart => exact ⟨rfl, rfl, rfl⟩
  case round =>
    obtain ⟨rfl, rfl, rfl⟩ := hrel
    go_wp2_with fail
    refine (avail Z bx bb bw N out pend _ H.out).mono ?_
    rintro e w1 ⟨rfl, nq, rfl⟩
    go_wp2_with fail
    by_cases hfull : N = pend.length
    · -- the row is full, nothing is to be written
      have hp0 : p.length = 0 := by omega
      obtain rfl : p = [] := List.eq_nil_of_length_eq_zero hp0
      have hcp : ∀ d l k m, (Builtin.copy_ #[25, 25] 3 #[.slice d l k, .slice (some ⟨sb, o, none⟩) 0 c]).run Tryf.prog (w.drewN m) = .ok (goInt 0) (w.drewN m) := fun d l k m =>
        run_copy_none (w.drewN m) 25 25 3 5 d (some ⟨sb, o, none⟩) l k 0 c Tryf.underlying25 hinfo (by simp)
      have HR := Lib.hid hrow
      have HT := Lib.hid htk
      have HCS := Lib.hid hcs
      clear hrow htk hcs hsrc
      go_region_held3 (fun w' => w'.cell? ⟨bw, 1, none⟩ = some (.slice (some ⟨bb, 0, none⟩) N N) ∧ w'.cell? ⟨bw, 2, none⟩ = some (.int .i64 pend.length)) (go_keep) (fail)
      go_wp2
      go_ret2
      refine ⟨by simp, ?_, ?_⟩
      · rw [List.append_nil]
        exact (H.out.drewN (nq + 1)).count (pend' := pend) ⟨cur, HR.out, HCS.out, HT.out, by omega⟩
      · exact ((Fr.refl _ _ w).drewN (nq + 1)).setCell (.inl (by simp)) _
    · have hne : ¬ N = pend.length := hfull
      have hcp : ∀ m, (Builtin.copy_ #[25, 25] 3 #[.slice (some ⟨bb, pend.length, none⟩) (N - pend.length) (N - pend.length), .slice (some ⟨sb, o, none⟩) p.length c]).run Tryf.prog (w.drewN m) = .ok (goInt (Lib.byteCells p).length) ((w.drewN m).setRow bb (cur.toList.take pend.length ++ Lib.byteCells p ++ cur.toList.drop (pend.length + (Lib.byteCells p).length)).toArray) := fun m =>
        run_copy_row (P := Tryf.prog) (w.drewN m) 25 25 3 5 bb pend.length (N - pend.length) (N - pend.length) ⟨sb, o, none⟩ p.length c cur 5 (Lib.byteCells p) Tryf.underlying25 hinfo hrow (by rw [byteCells_length]; exact (Nat.min_eq_left hfit).symm) (fun j v hj => by rw [Lib.addr_add]; exact hsrc j v hj) (by rw [byteCells_length, hcs]; omega) (Lib.byteCells_one _)
      have hk : ∀ W cs i, (World.setRow W bb cs).cell? ⟨bw, i, none⟩ = W.cell? ⟨bw, i, none⟩ := fun W cs i => World.cell?_of_block (a := ⟨bw, i, none⟩) (setRow_other W bb bw cs (Ne.symm H.out.nbw))
      have hkf : ∀ W cs i, (World.setRow W bb cs).frozen? ⟨bw, i, none⟩ = W.frozen? ⟨bw, i, none⟩ := fun W cs i => World.frozen?_of_block (a := ⟨bw, i, none⟩) (setRow_other W bb bw cs (Ne.symm H.out.nbw))
      simp only [byteCells_length] at hcp
      have HR := Lib.hid hrow
      have HT := Lib.hid htk
      have HCS := Lib.hid hcs
      clear hrow htk hcs hsrc
      go_region_held3 (fun w' => w'.cell? ⟨bw, 1, none⟩ = some (.slice (some ⟨bb, 0, none⟩) N N) ∧ w'.cell? ⟨bw, 2, none⟩ = some (.int .i64 pend.length)) (go_keep) (fail)
      go_wp2
      go_ret2
      obtain ⟨r1, r2⟩ := take_put (p := p) HCS.out HT.out (by omega)
      refine ⟨by simp, ?_, ?_⟩
      · have := (H.out.drewN (nq + 1)).put (pend' := pend ++ p) HR.out r1 r2 (by rw [List.length_append]; omega) (k := (pend.length : Int) + (p.length : Int)) (by rw [List.length_append]; omega)
        exact this
      · exact (((Fr.refl _ _ w).drewN (nq + 1)).setRow (.inl (by simp)) _).setCell (.inl (by simp)) _

set_option maxHeartbeats 2000000 in
set_option maxRecDepth 100000 in
/-- nothing to write: whatever the slice's address, nil too -/
theorem write_empty (Z bx bb bw N : Nat) (out pend : List UInt8) (ao : Option Addr) (c : Nat) (w : World) (h : WrIs Z bx bb bw N out pend w) :
    Calls Tryf.prog 46 #[.pointer (some ⟨bw, 0, none⟩), .slice ao 0 c] w fun e w' => e = .returned (.tuple #[.int .i64 0, .nilIface]) ∧ WrIs Z bx bb bw N out pend w' ∧ Fr Z [bx, bb, bw] w w' := by
  have hinfo : (Tryf.prog.info? 5).map (·.size) = some 1 := by kernel_rfl
  have hN := h.lim
  obtain ⟨cur, hrow, hcs, htk, hle⟩ := h.row
  have c0 : w.cell? ⟨bw, 0, none⟩ = some .nilIface := by rw [Lib.cell_of_heap h.st]; rfl
  have c1 : w.cell? ⟨bw, 1, none⟩ = some (.slice (some ⟨bb, 0, none⟩) N N) := by rw [Lib.cell_of_heap h.st]; rfl
  have c2 : w.cell? ⟨bw, 2, none⟩ = some (.int .i64 pend.length) := by rw [Lib.cell_of_heap h.st]; rfl
  have f2 : w.frozen? ⟨bw, 2, none⟩ = false := Lib.frozen_of_heap h.st 2
  have hN' : (N : Int) ≤ 65536 := by omega
  have hp : (pend.length : Int) ≤ (N : Int) := by omega
  have ha : 0 ≤ ((N - pend.length : Nat) : Int) := by omega
  have hcp : ∀ d l k m, (Builtin.copy_ #[25, 25] 3 #[.slice d l k, .slice ao 0 c]).run Tryf.prog (w.drewN m) = .ok (goInt 0) (w.drewN m) := fun d l k m =>
    run_copy_none (w.drewN m) 25 25 3 5 d ao l k 0 c Tryf.underlying25 hinfo (by simp)
  have H := Lib.hid h
  have HR := Lib.hid hrow
  have HT := Lib.hid htk
  have HCS := Lib.hid hcs
  clear h hrow htk hcs
  by_cases hfull : N = pend.length
  all_goals
    go_enter Tryf.func46, Tryf.ntmps46
    go_wp2
    go_loopw [1, 4] (fun s nn wr => s = .slice ao 0 c ∧ nn = .int .i64 0 ∧ w = wr) (fun _ _ _ => 0)
    case atStart => exact ⟨rfl, rfl, rfl⟩
    case round =>
      obtain ⟨rfl, rfl, rfl⟩ := hrel
      go_wp2_with fail
      refine (avail Z bx bb bw N out pend _ H.out).mono ?_
      rintro e w1 ⟨rfl, nq, rfl⟩
      go_wp2_with fail
      go_region_held3 (fun w' => w'.cell? ⟨bw, 1, none⟩ = some (.slice (some ⟨bb, 0, none⟩) N N) ∧ w'.cell? ⟨bw, 2, none⟩ = some (.int .i64 pend.length)) (go_keep) (fail)
      go_wp2
      go_ret2
      refine ⟨by simp, ?_, ?_⟩
      · exact (H.out.drewN (nq + 1)).count (pend' := pend) ⟨cur, HR.out, HCS.out, HT.out, by omega⟩
      · exact ((Fr.refl _ _ w).drewN (nq + 1)).setCell (.inl (by simp)) _

/-- does something wait in the row? -/
def cntOf (bw : Nat) (w : World) : Nat := match w.cell? ⟨bw, 2, none⟩ with
  | some (.int _ n) => if n = 0 then 0 else 1
  | _ => 0
theorem cnt_nil {Z bx bb bw N : Nat} {out : List UInt8} {w : World} (h : WrIs Z bx bb bw N out [] w) : cntOf bw w = 0 := by
  have c2 : w.cell? ⟨bw, 2, none⟩ = some (.int .i64 0) := by rw [Lib.cell_of_heap h.st]; rfl
  unfold cntOf
  rw [c2]
  rfl
theorem cnt_some {Z bx bb bw N : Nat} {out pend : List UInt8} {w : World} (h : WrIs Z bx bb bw N out pend w) (hp : 0 < pend.length) : cntOf bw w = 1 := by
  have c2 : w.cell? ⟨bw, 2, none⟩ = some (.int .i64 pend.length) := by rw [Lib.cell_of_heap h.st]; rfl
  unfold cntOf
  rw [c2]
  show (if (pend.length : Int) = 0 then 0 else 1) = 1
  rw [if_neg (by omega)]

end Go.Proofs.Qxb6615679aFmt
