/-
  The proof of 'Rows.FnRequestReadsWhatWriteRequestWroteToldSaid': the row from the walk, then the told and tied card by the builder's one call. The frame follows the guide's worked example of a told row, turned to this program.
-/
import Derived.Test.Qxb6615679aFmtCards
import Derived.Test.Qxb6615679aFmtTie
import Derived.Test.Qxb6615679aFmtFrame
import Derived.Test.Qxb6615679aFmtMain8
import Derived.SevenTiedAt
namespace Go.Proofs.Qxb6615679aFmt.fnRequestReadsWhatWriteRequestWrote
open Go.ChangeShapes Go.WideShapes Go.ChangeAt Go.RowKit Go.Deep
open Go.Extern.Stop Go.Stop Go.Extern

theorem walk (size : Int) (op dt vb oq cas : Nat) (ev kv vv : Value) (le lk lv : List UInt8) (w : World) (se : SrcV w.heap.size ev le w) (sk : SrcV w.heap.size kv lk w) (sv : SrcV w.heap.size vv lv w)
    (hop : op < 256) (hdt : dt < 256) (hvb : vb < 65536) (hoq : oq < 4294967296) (hcas : cas < 18446744073709551616) :
    Calls Tryf.prog 8 #[.int .i64 size, .int .u8 op, .int .u8 dt, .int .u16 vb, .int .u32 oq, .int .u64 cas, ev, kv, vv] w fun e w' => e = .returned (.bool true) ∧ Below w.heap.size w w' := by
  have se' := se
  have sk' := sk
  have sv' := sv
  obtain ⟨ae, ce, rfl, _⟩ := se'.ex
  obtain ⟨ak, ck, rfl, _⟩ := sk'.ex
  obtain ⟨av, cv, rfl, _⟩ := sv'.ex
  by_cases hsum : le.length + lk.length + lv.length ≤ 1048576
  · by_cases hlo : size < 16
    · exact fn8_early size op dt vb oq cas ae ak av _ _ _ ce ck cv w (.inr (.inl hlo))
    · by_cases hhi : 65536 < size
      · exact fn8_early size op dt vb oq cas ae ak av _ _ _ ce ck cv w (.inr (.inr (.inl hhi)))
      · by_cases hok : le.length ≤ 255 ∧ lk.length ≤ 250 ∧ lv.length ≤ 1048576
        · obtain ⟨n, rfl⟩ := Int.eq_ofNat_of_zero_le (show 0 ≤ size by omega)
          exact fn8_ok n op dt vb oq cas _ _ _ le lk lv w se sk sv hsum (by omega) (by omega) hok.1 hok.2.1 hop hdt hvb hoq hcas
        · exact fn8_early size op dt vb oq cas ae ak av _ _ _ ce ck cv w (.inr (.inr (.inr hok)))
  · exact fn8_early size op dt vb oq cas ae ak av _ _ _ ce ck cv w (.inl hsum)

set_option maxRecDepth 100000 in
set_option maxHeartbeats 1600000 in
theorem lifted (os : Os) (started : os.Started) (H : Type) (enc : TypeId × Value → H) :
    ReturnsInTold none {} Tryf.checked os 8 .any Input.okWide ((OpenSpec.ofChange Rows.fnRequestReadsWhatWriteRequestWroteSpec).preRow enc Tryf.prog Tryf.f8 [] false laidShort)
      (fun F => ((OpenSpec.ofChange Rows.fnRequestReadsWhatWriteRequestWroteSpec).at F.told).post enc Tryf.prog Tryf.f8 false true false false) (aloneAtReturn Tryf.prog) nothingAlways := by
  refine returnsInTold_of_row (C := Tryf.checked) (s := OpenSpec.ofChange Rows.fnRequestReadsWhatWriteRequestWroteSpec) (by kernel_rfl) own started (by kernel_rfl) Tryf.func8
    (OpenSpec.witness_stopped_atRef (enc := enc) (C := Tryf.checked) false (World.doorLaid Tryf.prog 147 os) #[.int .i64 0, .int .u8 0, .int .u8 0, .int .u16 0, .int .u32 0, .int .u64 0, .slice none 0 0, .slice none 0 0, .slice none 0 0] rfl (by kernel_rfl) (by kernel_rfl) (by kernel_rfl)
      (OpenSpec.preRow_of_B rfl 8 (by kernel_rfl) (by kernel_rfl) (door_met os _))) ?_
  intro F W base0 args ds gs before _ _ hval0 hW _ _ hsz _ _
  have hval : ∀ (j : Nat) t v, Tryf.f8.params[j]? = some t → args[j]? = some v → Value.okWide Tryf.prog W .any base0 t v := hval0
  have hW' := hW
  obtain ⟨p, q, hA0, hV, rfl, hfz, hnd⟩ := hW
  have hA : DataW.TrodAll enc Tryf.prog W 0 (fun _ => true) true Tryf.f8.params.toList args.toList ds p := hA0
  have hsz' : (DataW.weightsEach Tryf.prog (Tryf.f8.params.toList ++ (OpenSpec.ofChange Rows.fnRequestReadsWhatWriteRequestWroteSpec).bare.plain.varTypes Tryf.prog) (ds ++ gs)).all (· ≤ reachBytes) = true := hsz
  rw [Tryf.params8] at hA hval hsz'
  obtain ⟨rfl, rfl⟩ := trodVars_none hV
  obtain ⟨args⟩ := args
  obtain ⟨v0, r0, d0, s0, p0, q0, e0, rfl, rfl, h0, hA⟩ := trodAll_cons hA
  obtain ⟨v1, r1, d1, s1, p1, q1, rfl, rfl, rfl, h1, hA⟩ := trodAll_cons hA
  obtain ⟨v2, r2, d2, s2, p2, q2, rfl, rfl, rfl, h2, hA⟩ := trodAll_cons hA
  obtain ⟨v3, r3, d3, s3, p3, q3, rfl, rfl, rfl, h3, hA⟩ := trodAll_cons hA
  obtain ⟨v4, r4, d4, s4, p4, q4, rfl, rfl, rfl, h4, hA⟩ := trodAll_cons hA
  obtain ⟨v5, r5, d5, s5, p5, q5, rfl, rfl, rfl, h5, hA⟩ := trodAll_cons hA
  obtain ⟨v6, r6, d6, s6, p6, q6, rfl, rfl, rfl, h6, hA⟩ := trodAll_cons hA
  obtain ⟨v7, r7, d7, s7, p7, q7, rfl, rfl, rfl, h7, hA⟩ := trodAll_cons hA
  obtain ⟨v8, r8, d8, s8, p8, q8, rfl, rfl, rfl, h8, hA⟩ := trodAll_cons hA
  obtain ⟨rfl, rfl, rfl⟩ := trodAll_nil hA
  simp only at e0
  subst e0
  obtain ⟨size, rfl, rfl, rfl, w0⟩ := open_int Tryf.underlying3 (hval 0 3 v0 rfl rfl) h0
  obtain ⟨n1, rfl, rfl, rfl, w1⟩ := open_int Tryf.underlying5 (hval 1 5 v1 rfl rfl) h1
  obtain ⟨n2, rfl, rfl, rfl, w2⟩ := open_int Tryf.underlying5 (hval 2 5 v2 rfl rfl) h2
  obtain ⟨n3, rfl, rfl, rfl, w3⟩ := open_int Tryf.underlying22 (hval 3 22 v3 rfl rfl) h3
  obtain ⟨n4, rfl, rfl, rfl, w4⟩ := open_int Tryf.underlying23 (hval 4 23 v4 rfl rfl) h4
  obtain ⟨n5, rfl, rfl, rfl, w5⟩ := open_int Tryf.underlying24 (hval 5 24 v5 rfl rfl) h5
  obtain ⟨le, se, b6⟩ := open_src (hval 6 25 v6 rfl rfl) h6 (fun x y e => sized_slice (j := 6) hsz' rfl (by rw [e]; rfl) Tryf.underlying25)
  obtain ⟨lk, sk, b7⟩ := open_src (hval 7 25 v7 rfl rfl) h7 (fun x y e => sized_slice (j := 7) hsz' rfl (by rw [e]; rfl) Tryf.underlying25)
  obtain ⟨lv, sv, b8⟩ := open_src (hval 8 25 v8 rfl rfl) h8 (fun x y e => sized_slice (j := 8) hsz' rfl (by rw [e]; rfl) Tryf.underlying25)
  obtain ⟨op, rfl, m1⟩ := nat_of w1 rfl
  obtain ⟨dt, rfl, m2⟩ := nat_of w2 rfl
  obtain ⟨vb, rfl, m3⟩ := nat_of w3 rfl
  obtain ⟨oq, rfl, m4⟩ := nat_of w4 rfl
  obtain ⟨cas, rfl, m5⟩ := nat_of w5 rfl
  clear hA0 hval0 hsz hsz'
  refine (walk size op dt vb oq cas v6 v7 v8 le lk lv W se sk sv (by simp [IntKind.max, IntKind.signed, IntKind.bits] at m1; omega) (by simp [IntKind.max, IntKind.signed, IntKind.bits] at m2; omega) (by simp [IntKind.max, IntKind.signed, IntKind.bits] at m3; omega) (by simp [IntKind.max, IntKind.signed, IntKind.bits] at m4; omega) (by simp [IntKind.max, IntKind.signed, IntKind.bits] at m5; omega)).mono fun e W' ⟨he, hB⟩ => ?_
  subst he
  have s6 := hB.trod laidOut read25 lt25 h6 b6
  have s7 := hB.trod laidOut read25 lt25 h7 b7
  have s8 := hB.trod laidOut read25 lt25 h8 b8
  refine ⟨_, rfl, _, _, _, [], [] ++ ([] ++ ([] ++ ([] ++ ([] ++ ([] ++ (p6 ++ (p7 ++ p8))))))), [], hW', ?_, ?_, ?_, hB.frame _, fun h => by cases h⟩
  · exact trodAll_mk1 (shut_bool Tryf.underlying4 _)
  · exact trodAll_cons_mk (shut_int Tryf.underlying3 w0) (trodAll_cons_mk (shut_int Tryf.underlying5 w1) (trodAll_cons_mk (shut_int Tryf.underlying5 w2) (trodAll_cons_mk (shut_int Tryf.underlying22 w3) (trodAll_cons_mk (shut_int Tryf.underlying23 w4) (trodAll_cons_mk (shut_int Tryf.underlying24 w5) (trodAll_mk3 s6 s7 s8))))))
  · exact rfl
end Go.Proofs.Qxb6615679aFmt.fnRequestReadsWhatWriteRequestWrote

namespace Go.Proofs.Qxb6615679aFmt
open Go.Extern.Stop Go.Stop Go.Extern
theorem noKnobs8 : Tryf.pinned.checked.prog.stopKnobs = [] := by kernel_rfl
theorem quietAll8 (os : Os) : Stop.quiet Tryf.pinned.checked.prog os := by
  intro k hk
  rw [noKnobs8] at hk
  cases hk
/-- the statement: the told and tied card -/
theorem fnRequestReadsWhatWriteRequestWrote_card : Rows.FnRequestReadsWhatWriteRequestWroteToldSaid :=
  Claim7.holds_of_told_tied_any_at .later 8 Tryf.f8 (Rows.fnRequestReadsWhatWriteRequestWroteRow.stops.headD "") ["fmt.errorf"] [] (true, "f5a3b6399b93972188f84a8f3b4a5db404fc8ac53dfcdb9ac1a49691e6e85e26") true false [.sentinel] true
    (by kernel_rfl) rfl rfl rfl laidOut (by kernel_rfl) rfl ⟨rfl, rfl, rfl, rfl, rfl, rfl, rfl⟩ rfl rfl (by kernel_rfl) (by kernel_rfl) Tryf.func8 (by kernel_rfl)
    (of_decide_eq_true (by kernel_rfl)) (of_decide_eq_true (by kernel_rfl)) (by kernel_rfl) rfl (by kernel_rfl) (by kernel_rfl)
    (by kernel_rfl) (by kernel_rfl) (by kernel_rfl) (by kernel_rfl) (by kernel_rfl) (by kernel_rfl) (by kernel_rfl) (by kernel_rfl) (by kernel_rfl) rfl (by kernel_rfl) rfl rfl
    rfl rfl
    rfl (by kernel_rfl) (by kernel_rfl) (by kernel_rfl) (by kernel_rfl) (by kernel_rfl) fnRequestReadsWhatWriteRequestWrote_row_tie
    (OpenClaim.moreEntering_of (by kernel_rfl) (by kernel_rfl) (by kernel_rfl) (by kernel_rfl) (by kernel_rfl) (by kernel_rfl) (by kernel_rfl) (by kernel_rfl) (by kernel_rfl) (by kernel_rfl))
    ⟨_, WideRow.started_initial, quietAll8 _⟩
    (fun os started _ H enc _ => fnRequestReadsWhatWriteRequestWrote.lifted os started H enc)
end Go.Proofs.Qxb6615679aFmt
