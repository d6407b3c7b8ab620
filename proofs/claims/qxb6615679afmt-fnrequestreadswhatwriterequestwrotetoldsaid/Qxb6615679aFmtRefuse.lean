/-
  writePacket beyond the limits: fmt.Errorf answers an error that is not nil; nothing is written. (The closed facts on fmt's stop are those that the guide's kit lays for such a program.)
-/
import Derived.Test.Qxb6615679aFmtPacket2
import Derived.Stop.CallBack
import Derived.Stop.IfaceNil
import GoSem.ClaimData
namespace Go.Proofs.Qxb6615679aFmt
open Go.RowKit Go.Extern.Stop Go.Stop Go.Extern

theorem call56 (args : Array Value) (w : World) : (callFunc 56 args).run Tryf.prog w = ((FmtStop.errorf #[9, 106] #[47] args).run Tryf.prog w).andThen fun v w' => .ok (.value v) w' :=
  run_callFunc_extern Tryf.func56 (by kernel_rfl) (by kernel_rfl) (by kernel_rfl) (by kernel_rfl) args w
theorem guardF (name : String) (w : World) : (FmtStop.guard name).run Tryf.prog w = .ok () w := by kernel_rfl
theorem fmt0 : FmtStop.printed? ⟨#[112, 97, 99, 107, 101, 116, 32, 111, 102, 32, 37, 100, 32, 98, 121, 116, 101, 115, 32, 111, 102, 32, 101, 120, 116, 114, 97, 115, 44, 32, 37, 100, 32, 111, 102, 32, 107, 101, 121, 32, 97, 110, 100, 32, 37, 100, 32, 111, 102, 32, 118, 97, 108, 117, 101, 32, 105, 115, 32, 98, 101, 121, 111, 110, 100, 32, 116, 104, 101, 32, 108, 105, 109, 105, 116, 115]⟩ 3 = some [(0, 100, false), (1, 100, false), (2, 100, false)] := by kernel_rfl
theorem fmt0r (w : World) : (FmtDoors.printed ⟨#[112, 97, 99, 107, 101, 116, 32, 111, 102, 32, 37, 100, 32, 98, 121, 116, 101, 115, 32, 111, 102, 32, 101, 120, 116, 114, 97, 115, 44, 32, 37, 100, 32, 111, 102, 32, 107, 101, 121, 32, 97, 110, 100, 32, 37, 100, 32, 111, 102, 32, 118, 97, 108, 117, 101, 32, 105, 115, 32, 98, 101, 121, 111, 110, 100, 32, 116, 104, 101, 32, 108, 105, 109, 105, 116, 115]⟩ 3).run Tryf.prog w = .ok [(0, 100, false), (1, 100, false), (2, 100, false)] w := by kernel_rfl
def shape3 : List UInt8 := [5, 3, 0, 0, 0, 0, 0, 0, 0, 105, 110, 116]
theorem op3_100 (name : String) (x : Int) (w : World) : (FmtStop.operand name false 100 false (.iface 3 (.int .i64 x))).run Tryf.prog w = .ok (shape3, Go.Extern.Stop.digits 8 (x % 2 ^ 64).toNat) w := by kernel_rfl
theorem op3_100w (name : String) (x : Int) (w : World) : (FmtStop.operand name true 100 false (.iface 3 (.int .i64 x))).run Tryf.prog w = .ok (shape3, Go.Extern.Stop.digits 8 (x % 2 ^ 64).toNat) w := by kernel_rfl
theorem ptr121 (w : World) : (FmtStop.ptrTo "errors.errorString").run Tryf.prog w = .ok 121 w := by kernel_rfl
theorem elem121 (w : World) : (elemOf 121).run Tryf.prog w = .ok 123 w := by kernel_rfl
theorem isError121 (w : World) : (FmtDoors.textMethod 121 "Error").run Tryf.prog w = .ok true w := by kernel_rfl

set_option maxHeartbeats 2000000 in
set_option maxRecDepth 100000 in
theorem packet_refuse (F : Interp) (bw : Nat) (ae ak av : Option Addr) (le lk lv ce ck cv : Nat) (w : World) (hF : F.answers w.tape) (m op kl el dt vb bl oq cas : Int)
    (l1 : le ≤ 140737488355328) (l2 : lk ≤ 140737488355328) (l3 : lv ≤ 140737488355328) (hbad : 255 < le ∨ (le ≤ 255 ∧ 250 < lk) ∨ (le ≤ 255 ∧ lk ≤ 250 ∧ 1048576 < lv)) :
    Calls Tryf.prog 29 #[.pointer (some ⟨bw, 0, none⟩), .agg #[.int .u8 m, .int .u8 op, .int .u16 kl, .int .u8 el, .int .u8 dt, .int .u16 vb, .int .u32 bl, .int .u32 oq, .int .u64 cas], .slice ae le ce, .slice ak lk ck, .slice av lv cv] w fun e w' => (∃ T x, e = .returned (.iface T x)) ∧ Below w.heap.size w w' := by
  have hF' := answers_open hF
  have f1 := call56
  have f2 := guardF
  have f3 := fmt0
  have f4 := fmt0r
  have f5 := op3_100
  have f6 := op3_100w
  have f7 := ptr121
  have f8 := elem121
  have f9 := isError121
  rcases hbad with h | ⟨ha, h⟩ | ⟨ha, hb, h⟩
  · have h' : 255 < (le : Int) := by omega
    clear h
    go_enter Tryf.func29, Tryf.ntmps29
    go_wp2
    go_ret
    exact ⟨⟨_, _, rfl⟩, ((((Below.refl _ _).alloc (Nat.le_refl _) _).alloc (by simp) _).alloc (by simp; omega) _).drew⟩
  · have h' : 250 < (lk : Int) := by omega
    have ha' : (le : Int) ≤ 255 := by omega
    clear h ha
    go_enter Tryf.func29, Tryf.ntmps29
    go_wp2
    go_ret
    exact ⟨⟨_, _, rfl⟩, ((((Below.refl _ _).alloc (Nat.le_refl _) _).alloc (by simp) _).alloc (by simp; omega) _).drew⟩
  · have h' : 1048576 < (lv : Int) := by omega
    have ha' : (le : Int) ≤ 255 := by omega
    have hb' : (lk : Int) ≤ 250 := by omega
    clear h ha hb
    go_enter Tryf.func29, Tryf.ntmps29
    go_wp2
    go_ret
    exact ⟨⟨_, _, rfl⟩, ((((Below.refl _ _).alloc (Nat.le_refl _) _).alloc (by simp) _).alloc (by simp; omega) _).drew⟩
end Go.Proofs.Qxb6615679aFmt
