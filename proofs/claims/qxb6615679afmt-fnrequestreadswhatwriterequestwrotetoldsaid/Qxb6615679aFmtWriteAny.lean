/-
  (*bufio.Writer).Write over this program, where what is written may not fit the buffer: the loop.
-/
import Derived.Test.Qxb6615679aFmtWriteTo
namespace Go.Proofs.Qxb6615679aFmt
open Go.RowKit

theorem WrIs.setErr {Z bx bb bw N : Nat} {out pend : List UInt8} {w : World} (h : WrIs Z bx bb bw N out pend w) : WrIs Z bx bb bw N out pend (w.setCell ⟨bw, 0, none⟩ .nilIface) := by
  have lw := h.lw
  refine ⟨h.buf.of_blocks ?_ ?_, h.lb, h.lw, h.xb, h.xw, h.nbw, h.pos, h.lim, ?_, ?_⟩
  · rw [Below.heap_setCell _ _ _ _ (by exact h.xw)]
  · intro g hg
    rw [Below.heap_setCell _ _ _ _ (by show g ≠ bw; omega)]
  · rw [Lib.heap_setCell_same h.st]
    rfl
  · obtain ⟨cur, h1, rest⟩ := h.row
    exact ⟨cur, by rw [Below.heap_setCell _ _ _ _ (by exact h.nbw)]; exact h1, rest⟩

set_option maxHeartbeats 4000000 in
set_option maxRecDepth 100000 in
theorem write_any (Z bx bb bw N : Nat) (out pend : List UInt8) (sb o c : Nat) (p : List UInt8) (w : World) (h : WrIs Z bx bb bw N out pend w) (hZ : Z ≤ w.heap.size) (hsZ : sb < Z) (hsx : sb ∉ [bx, bb, bw]) (hcap : p.length ≤ c) (hcm : c ≤ 140737488355328) (hsrc : SrcAt sb o p w)
    (hlim : out.length + pend.length + p.length ≤ 140737488355328) :
    Calls Tryf.prog 46 #[.pointer (some ⟨bw, 0, none⟩), .slice (some ⟨sb, o, none⟩) p.length c] w fun e w' => e = .returned (.tuple #[.int .i64 p.length, .nilIface]) ∧
      (∃ out' pend', out' ++ pend' = out ++ pend ++ p ∧ WrIs Z bx bb bw N out' pend' w') ∧ Fr Z [bx, bb, bw] w w' := by
  have hinfo : (Tryf.prog.info? 5).map (·.size) = some 1 := by kernel_rfl
  have hm := method_write
  have H0 := Lib.hid h
  have HS := Lib.hid hsrc
  clear h hsrc
  go_enter Tryf.func46, Tryf.ntmps46
  go_wp2
  go_loopw [1, 4] (fun s nn wr => ∃ k ao c' out' pend', k ≤ p.length ∧ s = .slice ao (p.length - k) c' ∧ Hid (k < p.length → ao = some ⟨sb, o + k, none⟩) ∧ p.length - k ≤ c' ∧ c' ≤ 140737488355328 ∧ nn = .int .i64 (k : Nat) ∧ Hid (out' ++ pend' = out ++ pend ++ p.take k) ∧ Hid (WrIs Z bx bb bw N out' pend' wr) ∧ Hid (Fr Z [bx, bb, bw] w wr))
    (fun _ nn wr => 2 * (p.length - (intOf nn).toNat) + cntOf bw wr)
  case atStart => exact ⟨0, _, c, out, pend, Nat.zero_le _, rfl, fun _ => rfl, hcap, hcm, rfl, by show _ = _; simp, H0.out, Fr.refl _ _ _⟩
  case round =>
    obtain ⟨k, ao, c', out', pend', hk, rfl, hao, hlc, hcm', rfl, hsum, hw, hF⟩ := hrel
    have hN := hw.out.lim
    obtain ⟨cur, hrow, hcs, htk, hle⟩ := hw.out.row
    have c0 : wr.cell? ⟨bw, 0, none⟩ = some .nilIface := by rw [Lib.cell_of_heap hw.out.st]; rfl
    have c1 : wr.cell? ⟨bw, 1, none⟩ = some (.slice (some ⟨bb, 0, none⟩) N N) := by rw [Lib.cell_of_heap hw.out.st]; rfl
    have c2 : wr.cell? ⟨bw, 2, none⟩ = some (.int .i64 pend'.length) := by rw [Lib.cell_of_heap hw.out.st]; rfl
    have c3 : wr.cell? ⟨bw, 3, none⟩ = some (.iface 43 (.pointer (some ⟨bx, 0, none⟩))) := by rw [Lib.cell_of_heap hw.out.st]; rfl
    have f0 : wr.frozen? ⟨bw, 0, none⟩ = false := Lib.frozen_of_heap hw.out.st 0
    have f2 : wr.frozen? ⟨bw, 2, none⟩ = false := Lib.frozen_of_heap hw.out.st 2
    have hN' : (N : Int) ≤ 65536 := by omega
    have hp : (pend'.length : Int) ≤ (N : Int) := by omega
    obtain ⟨r, hr0⟩ : ∃ r, r = p.length - k := ⟨_, rfl⟩
    rw [← hr0] at hlc
    rw [← hr0]
    have hS := Lib.hid (HS.out.fr hF.out hsZ hsx)
    have hlr : (p.drop k).length = r := by rw [List.length_drop, hr0]
    have HL := Lib.hid hlr
    have Hr := Lib.hid hr0
    have hcpn : r = 0 → ∀ d l q m, (Builtin.copy_ #[25, 25] 3 #[.slice d l q, .slice ao 0 c']).run Tryf.prog (wr.drewN m) = .ok (goInt 0) (wr.drewN m) := fun _ d l q m =>
      run_copy_none (wr.drewN m) 25 25 3 5 d ao l q 0 c' Tryf.underlying25 hinfo (by simp)
    have hk1 : ∀ W cs i, (World.setRow W bb cs).cell? ⟨bw, i, none⟩ = W.cell? ⟨bw, i, none⟩ := fun W cs i => World.cell?_of_block (a := ⟨bw, i, none⟩) (setRow_other W bb bw cs (Ne.symm hw.out.nbw))
    have hkf : ∀ W cs i, (World.setRow W bb cs).frozen? ⟨bw, i, none⟩ = W.frozen? ⟨bw, i, none⟩ := fun W cs i => World.frozen?_of_block (a := ⟨bw, i, none⟩) (setRow_other W bb bw cs (Ne.symm hw.out.nbw))
    have HR := Lib.hid hrow
    have HT := Lib.hid htk
    have HCS := Lib.hid hcs
    have HK := Lib.hid hk
    clear hrow htk hcs hr0 hlr
    by_cases hfit : r ≤ N - pend'.length
    · have hfit' : (r : Int) ≤ ((N - pend'.length : Nat) : Int) := by omega
      by_cases hr1 : r = 0
      · -- nothing is left to be written
        have hcp := hcpn hr1
        have hkk : k = p.length := by have := Hr.out; omega
        subst hr1
        clear hcpn
        have fin : ∀ nq, (∃ out'' pend'', out'' ++ pend'' = out ++ pend ++ p ∧ WrIs Z bx bb bw N out'' pend'' ((wr.drewN nq).setCell ⟨bw, 2, none⟩ (.int .i64 pend'.length))) ∧ Fr Z [bx, bb, bw] w ((wr.drewN nq).setCell ⟨bw, 2, none⟩ (.int .i64 pend'.length)) := fun nq =>
          ⟨⟨out', pend', by rw [hsum.out, hkk, List.take_length], (hw.out.drewN nq).count (pend' := pend') ⟨cur, HR.out, HCS.out, HT.out, by omega⟩⟩, (hF.out.drewN nq).setCell (.inl (by simp)) _⟩
        have FIN := Lib.hid fin
        have HKK := Lib.hid hkk
        clear fin hkk
        by_cases hfull : N = pend'.length
        all_goals
          go_wp2_with fail
          refine (avail Z bx bb bw N out' pend' _ hw.out).mono ?_
          rintro e w1 ⟨rfl, nq, rfl⟩
          go_wp2_with fail
          go_region_held3 (fun w' => w'.cell? ⟨bw, 1, none⟩ = some (.slice (some ⟨bb, 0, none⟩) N N) ∧ w'.cell? ⟨bw, 2, none⟩ = some (.int .i64 pend'.length)) (go_keep) (fail)
          go_wp2
          go_ret2
          refine ⟨?_, FIN.out (nq + 1)⟩
          rw [HKK.out]
          simp
      · -- the rest fits
        have hklt : k < p.length := by have := Hr.out; omega
        obtain rfl := hao.out hklt
        have hne : ¬ N = pend'.length := by omega
        have hcp : ∀ m, (Builtin.copy_ #[25, 25] 3 #[.slice (some ⟨bb, pend'.length, none⟩) (N - pend'.length) (N - pend'.length), .slice (some ⟨sb, o + k, none⟩) r c']).run Tryf.prog (wr.drewN m) = .ok (goInt (Lib.byteCells (p.drop k)).length) ((wr.drewN m).setRow bb (cur.toList.take pend'.length ++ Lib.byteCells (p.drop k) ++ cur.toList.drop (pend'.length + (Lib.byteCells (p.drop k)).length)).toArray) := fun m =>
          run_copy_row (P := Tryf.prog) (wr.drewN m) 25 25 3 5 bb pend'.length (N - pend'.length) (N - pend'.length) ⟨sb, o + k, none⟩ r c' cur 5 (Lib.byteCells (p.drop k)) Tryf.underlying25 hinfo HR.out (by rw [byteCells_length, HL.out]; exact (Nat.min_eq_left hfit).symm) (fun j v hj => by rw [Lib.addr_add]; exact hS.out.drop k j v hj) (by rw [byteCells_length, HL.out, HCS.out]; omega) (Lib.byteCells_one _)
        simp only [byteCells_length, HL.out] at hcp
        clear hcpn
        have fin : ∀ nq, (∃ out'' pend'', out'' ++ pend'' = out ++ pend ++ p ∧ WrIs Z bx bb bw N out'' pend'' (((wr.drewN nq).setRow bb (cur.toList.take pend'.length ++ (Lib.byteCells (p.drop k) ++ cur.toList.drop (pend'.length + r))).toArray).setCell ⟨bw, 2, none⟩ (.int .i64 ((pend'.length : Int) + (r : Int))))) ∧
            Fr Z [bx, bb, bw] w (((wr.drewN nq).setRow bb (cur.toList.take pend'.length ++ (Lib.byteCells (p.drop k) ++ cur.toList.drop (pend'.length + r))).toArray).setCell ⟨bw, 2, none⟩ (.int .i64 ((pend'.length : Int) + (r : Int)))) := fun nq => by
          obtain ⟨r1, r2⟩ := take_put (p := p.drop k) HCS.out HT.out (by rw [HL.out]; omega)
          rw [HL.out] at r1 r2
          refine ⟨⟨out', pend' ++ p.drop k, by rw [← List.append_assoc, hsum.out, List.append_assoc _ (p.take k), List.take_append_drop], ?_⟩, ((hF.out.drewN nq).setRow (.inl (by simp)) _).setCell (.inl (by simp)) _⟩
          exact (hw.out.drewN nq).put (pend' := pend' ++ p.drop k) HR.out r1 r2 (by rw [List.length_append, HL.out]; omega) (by rw [List.length_append, HL.out]; omega)
        have FIN := Lib.hid fin
        clear fin
        go_wp2_with fail
        refine (avail Z bx bb bw N out' pend' _ hw.out).mono ?_
        rintro e w1 ⟨rfl, nq, rfl⟩
        go_wp2_with fail
        go_region_held3 (fun w' => w'.cell? ⟨bw, 1, none⟩ = some (.slice (some ⟨bb, 0, none⟩) N N) ∧ w'.cell? ⟨bw, 2, none⟩ = some (.int .i64 pend'.length)) (go_keep) (fail)
        go_wp2
        go_ret2
        refine ⟨?_, FIN.out (nq + 1)⟩
        have := Hr.out
        have e1 : ((k : Int) + (r : Int)) = (p.length : Int) := by omega
        simp [e1]
    · have hrN : ((N - pend'.length : Nat) : Int) < (r : Int) := by omega
      have hklt : k < p.length := by have := Hr.out; omega
      obtain rfl := hao.out hklt
      by_cases hpe : pend'.length = 0
      · -- straight to the underlying writer
        obtain rfl : pend' = [] := List.eq_nil_of_length_eq_zero hpe
        clear hcpn
        go_wp2_with fail
        refine (avail Z bx bb bw N out' [] _ hw.out).mono ?_
        rintro e w1 ⟨rfl, nq, rfl⟩
        have hU : ∀ nq, Calls Tryf.prog 84 #[.pointer (some ⟨bx, 0, none⟩), .slice (some ⟨sb, o + k, none⟩) r c'] (wr.drewN nq) fun e w' => e = .returned (.tuple #[.int .i64 r, .nilIface]) ∧ WrIs Z bx bb bw N (out' ++ p.drop k) [] w' ∧ Fr Z [bx] (wr.drewN nq) w' := fun nq => by
          have hU1 := under_write Z bx bb bw N out' [] sb (o + k) c' (p.drop k) (wr.drewN nq) (hw.out.drewN nq) (Nat.le_trans hZ hF.out.size) (by rw [HL.out]; omega) hsZ (fun e => hsx (by rw [e]; simp)) (hS.out.drop k) (by
            have h1 := congrArg List.length hsum.out
            rw [List.append_nil, List.length_append, List.length_append, List.length_take] at h1
            rw [HL.out]
            have := Hr.out
            omega)
          rw [HL.out] at hU1
          exact hU1
        have HU := Lib.hid hU
        clear hU
        go_wp2_with fail
        refine (buffered Z bx bb bw N out' [] _ (hw.out.drewN nq)).mono ?_
        rintro e w2 ⟨rfl, rfl⟩
        go_wp2_with (go_at_call 84; refine (HU.out nq).mono ?_; rintro e w3 ⟨rfl, h3, F3⟩; have d0 : w3.cell? ⟨bw, 0, none⟩ = some .nilIface := (by rw [Lib.cell_of_heap h3.st]; rfl); have e0 : w3.frozen? ⟨bw, 0, none⟩ = false := Lib.frozen_of_heap h3.st 0; have H3 := Lib.hid h3; have F3' := Lib.hid F3; clear h3 F3)
        go_roundw
        case rel =>
          refine ⟨p.length, _, c' - r, out' ++ p.drop k, [], Nat.le_refl _, by rw [Nat.sub_self], fun h => absurd h (Nat.lt_irrefl _), by omega, by omega, ?_, ?_, H3.out.setErr, (hF.out.drewN nq).trans ((F3'.out.mono (by simp)).setCell (.inl (by simp)) _)⟩
          · have := Hr.out
            have e1 : ((k : Int) + (r : Int)) = (p.length : Int) := by omega
            rw [e1]
          · show _ = _
            have h1 := hsum.out
            rw [List.append_nil] at h1 ⊢
            rw [h1, List.take_length, List.append_assoc _ (p.take k), List.take_append_drop]
        case measure =>
          have h0 := cnt_nil hw.out
          have h1 := cnt_nil H3.out.setErr
          have := Hr.out
          simp only [intOf] at *
          omega
      · -- fill the row, then flush it
        have hb0 : ((pend'.length : Int) == 0) = false := by rw [beq_eq_false_iff_ne]; omega
        clear hcpn
        have hsz : out'.length + pend'.length = out.length + pend.length + k := by
          have h1 := congrArg List.length hsum.out
          rw [List.length_append, List.length_append, List.length_append, List.length_take] at h1
          have := HK.out
          omega
        have HSZ := Lib.hid hsz
        clear hsz
        by_cases hfull : N = pend'.length
        · -- the row is full already
          have hcp : ∀ d q m, (Builtin.copy_ #[25, 25] 3 #[.slice d 0 q, .slice (some ⟨sb, o + k, none⟩) r c']).run Tryf.prog (wr.drewN m) = .ok (goInt 0) (wr.drewN m) := fun d q m =>
            run_copy_none (wr.drewN m) 25 25 3 5 d (some ⟨sb, o + k, none⟩) 0 q r c' Tryf.underlying25 hinfo (Nat.min_zero r)
          have hsub : N - pend'.length = 0 := by omega
          have hflush : ∀ nq, Calls Tryf.prog 30 #[.pointer (some ⟨bw, 0, none⟩)] ((wr.drewN nq).setCell ⟨bw, 2, none⟩ (.int .i64 (pend'.length : Int))) fun e w' => e = .returned .nilIface ∧ WrIs Z bx bb bw N (out' ++ pend') [] w' ∧ Fr Z [bx, bb, bw] ((wr.drewN nq).setCell ⟨bw, 2, none⟩ (.int .i64 (pend'.length : Int))) w' := fun nq =>
            flush Z bx bb bw N out' pend' _ ((hw.out.drewN nq).count (pend' := pend') ⟨cur, HR.out, HCS.out, HT.out, by omega⟩) (by rw [World.size_setCell]; exact Nat.le_trans hZ hF.out.size) (by
              have h1 := HSZ.out
              have h2 := Hr.out
              omega)
          have HFL := Lib.hid hflush
          have hc0' : ¬ c' = 0 := by omega
          clear hflush
          have hav := avail Z bx bb bw N out' pend' wr hw.out
          rw [hsub] at hav
          have HAV := Lib.hid hav
          have hr0 : 0 < (r : Int) := by omega
          clear hav hsub hrN
          go_wp2_with fail
          refine HAV.out.mono ?_
          rintro e w1 ⟨rfl, nq, rfl⟩
          go_wp2_with fail
          refine (buffered Z bx bb bw N out' pend' _ (hw.out.drewN nq)).mono ?_
          rintro e w2 ⟨rfl, rfl⟩
          go_wp2_with fail
          go_region_held3 (fun w' => w'.cell? ⟨bw, 1, none⟩ = some (.slice (some ⟨bb, 0, none⟩) N N) ∧ w'.cell? ⟨bw, 2, none⟩ = some (.int .i64 pend'.length)) (go_keep) (fail)
          go_wp2_with fail
          refine (HFL.out (nq + 1)).mono ?_
          rintro e w3 ⟨rfl, h3, F3⟩
          have H3 := Lib.hid h3
          have F3' := Lib.hid F3
          clear h3 F3
          go_wp2_with fail
          go_roundw
          case rel =>
            refine ⟨k, _, c', _, [], HK.out, ?_, fun _ => rfl, by have := Hr.out; omega, by omega, by go_num, ?_, H3.out, ((hF.out.drewN (nq + 1)).setCell (.inl (by simp)) _).trans F3'.out⟩
            · rw [← Hr.out]
            · show _ = _
              rw [List.append_nil]
              exact hsum.out
          case measure =>
            have h0 := cnt_some hw.out (by omega)
            have h1 := cnt_nil H3.out
            have := Hr.out
            simp only [intOf] at *
            omega
        · have hne : ¬ N = pend'.length := hfull
          have hlc2 : ((p.drop k).take (N - pend'.length)).length = N - pend'.length := by rw [List.length_take, HL.out]; omega
          have hcp : ∀ m, (Builtin.copy_ #[25, 25] 3 #[.slice (some ⟨bb, pend'.length, none⟩) (N - pend'.length) (N - pend'.length), .slice (some ⟨sb, o + k, none⟩) r c']).run Tryf.prog (wr.drewN m) = .ok (goInt (Lib.byteCells ((p.drop k).take (N - pend'.length))).length) ((wr.drewN m).setRow bb (cur.toList.take pend'.length ++ Lib.byteCells ((p.drop k).take (N - pend'.length)) ++ cur.toList.drop (pend'.length + (Lib.byteCells ((p.drop k).take (N - pend'.length))).length)).toArray) := fun m =>
            run_copy_row (P := Tryf.prog) (wr.drewN m) 25 25 3 5 bb pend'.length (N - pend'.length) (N - pend'.length) ⟨sb, o + k, none⟩ r c' cur 5 (Lib.byteCells ((p.drop k).take (N - pend'.length))) Tryf.underlying25 hinfo HR.out (by rw [byteCells_length, hlc2]; exact (Nat.min_eq_right (by omega)).symm) (fun j v hj => by rw [Lib.addr_add]; exact (hS.out.drop k).take _ j v hj) (by rw [byteCells_length, hlc2, HCS.out]; omega) (Lib.byteCells_one _)
          simp only [byteCells_length, hlc2] at hcp
          obtain ⟨X, hX⟩ : ∃ X, X = (cur.toList.take pend'.length ++ Lib.byteCells ((p.drop k).take (N - pend'.length)) ++ cur.toList.drop (pend'.length + (N - pend'.length))).toArray := ⟨_, rfl⟩
          rw [← hX] at hcp
          have hput : ∀ nq, WrIs Z bx bb bw N out' (pend' ++ (p.drop k).take (N - pend'.length)) (((wr.drewN nq).setRow bb X).setCell ⟨bw, 2, none⟩ (.int .i64 ((pend'.length : Int) + ((N - pend'.length : Nat) : Int)))) := fun nq => by
            obtain ⟨r1, r2⟩ := take_put (p := (p.drop k).take (N - pend'.length)) HCS.out HT.out (by rw [hlc2]; omega)
            rw [← List.append_assoc, hlc2] at r1 r2
            rw [hX]
            exact (hw.out.drewN nq).put (pend' := pend' ++ (p.drop k).take (N - pend'.length)) HR.out r1 r2 (by rw [List.length_append, hlc2]; omega) (by rw [List.length_append, hlc2]; omega)
          have hmr : N - pend'.length < r := by omega
          have hcm2 : ¬ c' = N - pend'.length := by omega
          have hmb : (pend'.length : Int) + ((N - pend'.length : Nat) : Int) ≤ 65536 := by omega
          have hflush : ∀ nq, Calls Tryf.prog 30 #[.pointer (some ⟨bw, 0, none⟩)] (((wr.drewN nq).setRow bb X).setCell ⟨bw, 2, none⟩ (.int .i64 ((pend'.length : Int) + ((N - pend'.length : Nat) : Int)))) fun e w' => e = .returned .nilIface ∧ WrIs Z bx bb bw N (out' ++ (pend' ++ (p.drop k).take (N - pend'.length))) [] w' ∧ Fr Z [bx, bb, bw] (((wr.drewN nq).setRow bb X).setCell ⟨bw, 2, none⟩ (.int .i64 ((pend'.length : Int) + ((N - pend'.length : Nat) : Int)))) w' := fun nq =>
            flush Z bx bb bw N out' (pend' ++ (p.drop k).take (N - pend'.length)) _ (hput nq) (by simp [World.setRow]; exact Nat.le_trans hZ hF.out.size) (by
              rw [List.length_append, hlc2]
              have h1 := HSZ.out
              have h2 := Hr.out
              omega)
          have HFL := Lib.hid hflush
          have HL2 := Lib.hid hlc2
          clear hput hX hlc2 hflush
          go_wp2_with fail
          refine (avail Z bx bb bw N out' pend' _ hw.out).mono ?_
          rintro e w1 ⟨rfl, nq, rfl⟩
          go_wp2_with fail
          refine (buffered Z bx bb bw N out' pend' _ (hw.out.drewN nq)).mono ?_
          rintro e w2 ⟨rfl, rfl⟩
          go_wp2_with fail
          go_region_held3 (fun w' => w'.cell? ⟨bw, 1, none⟩ = some (.slice (some ⟨bb, 0, none⟩) N N) ∧ w'.cell? ⟨bw, 2, none⟩ = some (.int .i64 pend'.length)) (go_keep) (fail)
          go_wp2_with fail
          refine (HFL.out (nq + 1)).mono ?_
          rintro e w3 ⟨rfl, h3, F3⟩
          have H3 := Lib.hid h3
          have F3' := Lib.hid F3
          clear h3 F3
          go_wp2_with fail
          go_roundw
          case rel =>
            refine ⟨k + (N - pend'.length), _, c' - (N - pend'.length), _, [], by have := Hr.out; omega, ?_, fun _ => rfl, by have := Hr.out; omega, by omega, by go_num, ?_, H3.out, (((hF.out.drewN (nq + 1)).setRow (.inl (by simp)) _).setCell (.inl (by simp)) _).trans F3'.out⟩
            · have h1 := Hr.out
              rw [show p.length - (k + (N - pend'.length)) = r - (N - pend'.length) by omega, ← Nat.add_assoc]
            · show _ = _
              rw [List.append_nil, ← List.append_assoc, hsum.out, List.append_assoc _ (p.take k), ← List.take_add]
          case measure =>
            have h0 := cnt_some hw.out (by omega)
            have h1 := cnt_nil H3.out
            have := Hr.out
            simp only [intOf] at *
            omega
end Go.Proofs.Qxb6615679aFmt
