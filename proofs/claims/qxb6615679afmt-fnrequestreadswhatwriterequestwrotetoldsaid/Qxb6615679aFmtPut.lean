/-
  (*header).put: the 24 bytes of a packet's header, laid at the head of a row.
-/
import Derived.Test.Qxb6615679aFmtNew
namespace Go.Proofs.Qxb6615679aFmt
open Go.RowKit

/-- the list with the values vs laid from place o on -/
def putL (l : List Value) (o : Nat) (vs : List Value) : List Value := l.take o ++ vs ++ l.drop (o + vs.length)

theorem putL_length (l : List Value) (o : Nat) (vs : List Value) (h : o + vs.length ≤ l.length) : (putL l o vs).length = l.length := by
  unfold putL
  simp only [List.length_append, List.length_take, List.length_drop]
  omega

theorem set_putL (l : List Value) (o : Nat) (v : Value) (h : o < l.length) : l.set o v = putL l o [v] := by
  unfold putL
  rw [List.set_eq_take_append_cons_drop, if_pos h]
  simp

theorem putL_cons (l : List Value) (o : Nat) (v : Value) (vs : List Value) (h : o + vs.length < l.length) : putL (putL l o [v]) (o + 1) vs = putL l o (v :: vs) := by
  have e1 : (putL l o [v]).take (o + 1) = l.take o ++ [v] := by
    unfold putL
    exact List.take_left' (by simp; omega)
  have e2 : (putL l o [v]).drop (o + 1 + vs.length) = l.drop (o + (v :: vs).length) := by
    unfold putL
    rw [List.drop_append, List.drop_of_length_le (by simp; omega), List.nil_append, List.drop_drop]
    congr 1
    simp only [List.length_append, List.length_take, List.length_cons, List.length_nil]
    omega
  rw [putL, e1, e2, putL]
  simp

theorem heap_setCells (g : Nat) (T : TypeId) : ∀ (vs : List Value) (o : Nat) (cur : List Value) (w : World), w.heap[g]? = some (.cells cur.toArray T (0, 0)) → o + vs.length ≤ cur.length → (w.setCells g o vs).heap[g]? = some (.cells (putL cur o vs).toArray T (0, 0))
  | [], o, cur, w, h, _ => by
    unfold World.setCells putL
    simpa using h
  | v :: vs, o, cur, w, h, hl => by
    have hl' : o + vs.length < cur.length := by simp at hl; omega
    unfold World.setCells
    have h1 : (w.setCell ⟨g, o, none⟩ v).heap[g]? = some (.cells (putL cur o [v]).toArray T (0, 0)) := by
      rw [Lib.heap_setCell_same h, ← set_putL cur o v (by omega)]
      simp
    rw [heap_setCells g T vs (o + 1) (putL cur o [v]) _ h1 (by rw [putL_length _ _ _ (by simp; omega)]; omega), putL_cons _ _ _ _ hl']

theorem grown_setCells (g : Nat) : ∀ (vs : List Value) (o : Nat) (a w : World), a.grownBy w (some g) → a.grownBy (w.setCells g o vs) (some g)
  | [], _, _, _, h => h
  | v :: vs, o, a, w, h => by
    unfold World.setCells
    exact grown_setCells g vs (o + 1) a _ (Lib.grownBy_setB h o v)

theorem row_cell {w : World} {g : Nat} {cur : List Value} {T : TypeId} (h : w.heap[g]? = some (.cells cur.toArray T (0, 0))) (i : Nat) : w.cell? ⟨g, i, none⟩ = cur[i]? := by
  rw [Lib.cell_of_heap h]
  simp

/-- one of BigEndian's three Puts, in whatever row -/
def Puts (f : FuncId) (k : IntKind) (v n : Nat) : Prop := ∀ (g o m c : Nat) (T : TypeId) (cur : List Value) (w : World), n ≤ m → w.heap[g]? = some (.cells cur.toArray T (0, 0)) → o + n ≤ cur.length →
  Calls Tryf.prog f #[.agg #[], .slice (some ⟨g, o, none⟩) m c, .int k v] w fun e w' => e = .returned (.tuple #[]) ∧ w'.heap[g]? = some (.cells (putL cur o (Lib.byteCells (Lib.beBytes n v))).toArray T (0, 0)) ∧ w.grownBy w' (some g)

theorem some_at {cur : List Value} {w : World} {g : Nat} {T : TypeId} (h : w.heap[g]? = some (.cells cur.toArray T (0, 0))) (i : Nat) (hi : i < cur.length) : w.cell? ⟨g, i, none⟩ = some cur[i] := by
  rw [row_cell h, List.getElem?_eq_getElem hi]

theorem beBytes_length (n v : Nat) : (Lib.beBytes n v).length = n := by
  simp [Lib.beBytes, Lib.leBytes_length]

theorem put16 (v : Nat) (hv : v < 65536) : Puts 58 .u16 v 2 := by
  intro g o m c T cur w hm hr hf
  refine (Tryf.binary_BE_PutUint16 g o m c v hv _ _ w hm (some_at hr o (by omega)) (some_at hr (o + 1) (by omega)) (Lib.frozen_of_heap hr _) (Lib.frozen_of_heap hr _)).mono ?_
  rintro e w' ⟨rfl, rfl⟩
  have hg : g < w.heap.size := Lib.lt_of_heap hr
  exact ⟨rfl, heap_setCells g T _ o cur _ (by rw [Below.heap_alloc _ _ _ hg]; exact hr) (by rw [byteCells_length, beBytes_length]; exact hf), grown_setCells g _ o w _ (World.grownBy_alloc w _ _)⟩
theorem put32 (v : Nat) (hv : v < 4294967296) : Puts 59 .u32 v 4 := by
  intro g o m c T cur w hm hr hf
  refine (Tryf.binary_BE_PutUint32 g o m c v hv _ _ _ _ w hm (some_at hr o (by omega)) (some_at hr (o + 1) (by omega)) (some_at hr (o + 2) (by omega)) (some_at hr (o + 3) (by omega)) (Lib.frozen_of_heap hr _) (Lib.frozen_of_heap hr _) (Lib.frozen_of_heap hr _) (Lib.frozen_of_heap hr _)).mono ?_
  rintro e w' ⟨rfl, rfl⟩
  have hg : g < w.heap.size := Lib.lt_of_heap hr
  exact ⟨rfl, heap_setCells g T _ o cur _ (by rw [Below.heap_alloc _ _ _ hg]; exact hr) (by rw [byteCells_length, beBytes_length]; exact hf), grown_setCells g _ o w _ (World.grownBy_alloc w _ _)⟩
theorem put64 (v : Nat) (hv : v < 18446744073709551616) : Puts 60 .u64 v 8 := by
  intro g o m c T cur w hm hr hf
  refine (Tryf.binary_BE_PutUint64 g o m c v hv _ _ _ _ _ _ _ _ w hm (some_at hr o (by omega)) (some_at hr (o + 1) (by omega)) (some_at hr (o + 2) (by omega)) (some_at hr (o + 3) (by omega)) (some_at hr (o + 4) (by omega)) (some_at hr (o + 5) (by omega)) (some_at hr (o + 6) (by omega)) (some_at hr (o + 7) (by omega)) (Lib.frozen_of_heap hr _) (Lib.frozen_of_heap hr _) (Lib.frozen_of_heap hr _) (Lib.frozen_of_heap hr _) (Lib.frozen_of_heap hr _) (Lib.frozen_of_heap hr _) (Lib.frozen_of_heap hr _) (Lib.frozen_of_heap hr _)).mono ?_
  rintro e w' ⟨rfl, rfl⟩
  have hg : g < w.heap.size := Lib.lt_of_heap hr
  exact ⟨rfl, heap_setCells g T _ o cur _ (by rw [Below.heap_alloc _ _ _ hg]; exact hr) (by rw [byteCells_length, beBytes_length]; exact hf), grown_setCells g _ o w _ (World.grownBy_alloc w _ _)⟩

/-- a header's nine fields -/
structure Hdr where
  m : Nat
  op : Nat
  kl : Nat
  el : Nat
  dt : Nat
  f6 : Nat
  bl : Nat
  oq : Nat
  cas : Nat

/-- the struct's cells -/
def Hdr.cells (h : Hdr) : Array Value := #[.int .u8 h.m, .int .u8 h.op, .int .u16 h.kl, .int .u8 h.el, .int .u8 h.dt, .int .u16 h.f6, .int .u32 h.bl, .int .u32 h.oq, .int .u64 h.cas]
/-- the fields fit their kinds -/
structure Hdr.fits (h : Hdr) : Prop where
  m : h.m < 256
  op : h.op < 256
  kl : h.kl < 65536
  el : h.el < 256
  dt : h.dt < 256
  f6 : h.f6 < 65536
  bl : h.bl < 4294967296
  oq : h.oq < 4294967296
  cas : h.cas < 18446744073709551616
/-- the 24 bytes -/
def Hdr.bytes (h : Hdr) : List UInt8 := [UInt8.ofNat h.m, UInt8.ofNat h.op] ++ Lib.beBytes 2 h.kl ++ [UInt8.ofNat h.el, UInt8.ofNat h.dt] ++ Lib.beBytes 2 h.f6 ++ Lib.beBytes 4 h.bl ++ Lib.beBytes 4 h.oq ++ Lib.beBytes 8 h.cas
theorem Hdr.bytes_length (h : Hdr) : h.bytes.length = 24 := by
  unfold Hdr.bytes
  simp [beBytes_length]

theorem putL_putL (l : List Value) (o : Nat) (a b : List Value) (h : o + a.length + b.length ≤ l.length) : putL (putL l o a) (o + a.length) b = putL l o (a ++ b) := by
  have e1 : (putL l o a).take (o + a.length) = l.take o ++ a := by
    unfold putL
    exact List.take_left' (by simp; omega)
  have e2 : (putL l o a).drop (o + a.length + b.length) = l.drop (o + (a ++ b).length) := by
    unfold putL
    rw [List.drop_append, List.drop_of_length_le (by simp; omega), List.nil_append, List.drop_drop]
    congr 1
    simp only [List.length_append, List.length_take]
    omega
  rw [putL, e1, e2, putL]
  simp

theorem put_chain (h : Hdr) (hf : h.fits) (cur : List Value) (hl : 24 ≤ cur.length) :
    putL (putL (putL (putL (putL (putL (putL (putL (putL cur 0 [.int .u8 h.m]) 1 [.int .u8 h.op]) 2 (Lib.byteCells (Lib.beBytes 2 h.kl))) 4 [.int .u8 h.el]) 5 [.int .u8 h.dt]) 6 (Lib.byteCells (Lib.beBytes 2 h.f6))) 8 (Lib.byteCells (Lib.beBytes 4 h.bl))) 12 (Lib.byteCells (Lib.beBytes 4 h.oq))) 16 (Lib.byteCells (Lib.beBytes 8 h.cas)) = putL cur 0 (Lib.byteCells h.bytes) := by
  have l2 : ∀ v, (Lib.byteCells (Lib.beBytes 2 v)).length = 2 := fun v => by rw [byteCells_length, beBytes_length]
  have l4 : ∀ v, (Lib.byteCells (Lib.beBytes 4 v)).length = 4 := fun v => by rw [byteCells_length, beBytes_length]
  have l8 : ∀ v, (Lib.byteCells (Lib.beBytes 8 v)).length = 8 := fun v => by rw [byteCells_length, beBytes_length]
  have b1 : ∀ n, n < 256 → Lib.byteCells [UInt8.ofNat n] = [.int .u8 (n : Int)] := fun n hn => by
    unfold Lib.byteCells
    simp
    omega
  have step : ∀ (acc : List Value) (o : Nat) (b : List Value), acc.length = o → o + b.length ≤ 24 → putL (putL cur 0 acc) o b = putL cur 0 (acc ++ b) := fun acc o b ho hb => by
    have := putL_putL cur 0 acc b (by omega)
    rwa [Nat.zero_add, ho] at this
  rw [step [.int .u8 h.m] 1 _ rfl (by simp), step _ 2 _ (by simp) (by rw [l2]; omega), step _ 4 _ (by simp [l2]) (by simp), step _ 5 _ (by simp [l2]) (by simp), step _ 6 _ (by simp [l2]) (by rw [l2]; omega), step _ 8 _ (by simp [l2]) (by rw [l4]; omega),
    step _ 12 _ (by simp [l2, l4]) (by rw [l4]; omega), step _ 16 _ (by simp [l2, l4]) (by rw [l8]; omega)]
  congr 1
  unfold Hdr.bytes
  have e1 : Lib.byteCells [UInt8.ofNat h.m, UInt8.ofNat h.op] = [.int .u8 (h.m : Int), .int .u8 (h.op : Int)] := by
    rw [show [UInt8.ofNat h.m, UInt8.ofNat h.op] = [UInt8.ofNat h.m] ++ [UInt8.ofNat h.op] from rfl, byteCells_append, b1 _ hf.m, b1 _ hf.op]; rfl
  have e2 : Lib.byteCells [UInt8.ofNat h.el, UInt8.ofNat h.dt] = [.int .u8 (h.el : Int), .int .u8 (h.dt : Int)] := by
    rw [show [UInt8.ofNat h.el, UInt8.ofNat h.dt] = [UInt8.ofNat h.el] ++ [UInt8.ofNat h.dt] from rfl, byteCells_append, b1 _ hf.el, b1 _ hf.dt]; rfl
  rw [byteCells_append, byteCells_append, byteCells_append, byteCells_append, byteCells_append, byteCells_append, e1, e2]
  simp

theorem hd_kept {h : Hdr} {hh g : Nat} {w V : World} (hhd : w.heap[hh]? = some (.cells h.cells 60 (0, 0))) (hlh : hh < w.heap.size) (hne : hh ≠ g) (hg : w.grownBy V (some g)) : V.heap[hh]? = some (.cells h.cells 60 (0, 0)) := by
  rw [hg.block hh hlh (by simpa using hne)]
  exact hhd

set_option maxHeartbeats 4000000 in
set_option maxRecDepth 100000 in
theorem put_any (h : Hdr) (hf : h.fits) (hh g c : Nat) (T : TypeId) (cur : List Value) (w : World) (hhd : w.heap[hh]? = some (.cells h.cells 60 (0, 0))) (hr : w.heap[g]? = some (.cells cur.toArray T (0, 0))) (hl : 24 ≤ cur.length) (hc : 24 ≤ c) (hne : hh ≠ g) :
    Calls Tryf.prog 45 #[.pointer (some ⟨hh, 0, none⟩), .slice (some ⟨g, 0, none⟩) 24 c] w fun e w' => e = .returned (.tuple #[]) ∧ w'.heap[g]? = some (.cells (putL cur 0 (Lib.byteCells h.bytes)).toArray T (0, 0)) ∧ w.grownBy w' (some g) := by
  have n2 : ¬ c = 2 := by omega
  have n6 : ¬ c = 6 := by omega
  have n8 : ¬ c = 8 := by omega
  have n12 : ¬ c = 12 := by omega
  have n16 : ¬ c = 16 := by omega
  have hlh : hh < w.heap.size := Lib.lt_of_heap hhd
  have q0 : w.cell? ⟨hh, 0, none⟩ = some (.int .u8 h.m) := by rw [Lib.cell_of_heap hhd]; rfl
  have q1 : w.cell? ⟨hh, 1, none⟩ = some (.int .u8 h.op) := by rw [Lib.cell_of_heap hhd]; rfl
  have q2 : w.cell? ⟨hh, 2, none⟩ = some (.int .u16 h.kl) := by rw [Lib.cell_of_heap hhd]; rfl
  have r0 := some_at hr 0 (by omega)
  have r1 := some_at hr 1 (by omega)
  have z0 : w.frozen? ⟨g, 0, none⟩ = false := Lib.frozen_of_heap hr _
  have z1 : w.frozen? ⟨g, 1, none⟩ = false := Lib.frozen_of_heap hr _
  -- behind the first two stores
  obtain ⟨W1, hW1⟩ : ∃ W1, W1 = (w.setCell ⟨g, 0, none⟩ (.int .u8 h.m)).setCell ⟨g, 1, none⟩ (.int .u8 h.op) := ⟨_, rfl⟩
  have s1 : W1.heap[g]? = some (.cells (putL (putL cur 0 [.int .u8 h.m]) 1 [.int .u8 h.op]).toArray T (0, 0)) := by
    rw [hW1, ← set_putL _ 1 _ (by rw [putL_length _ _ _ (by simp; omega)]; omega), ← set_putL cur 0 _ (by omega), Lib.heap_setCell_same (Lib.heap_setCell_same hr _)]
    simp
  have G1 : w.grownBy W1 (some g) := by rw [hW1]; exact Lib.grownBy_setB (Lib.grownBy_setB ⟨rfl, rfl, rfl, Nat.le_refl _, fun _ _ _ => rfl⟩ 0 _) 1 _
  have p2 := put16 h.kl hf.kl g 2 22 (c - 2) T _ W1.drew (by omega) s1 (by rw [putL_length _ _ _ (by rw [putL_length _ _ _ (by simp; omega)]; simp; omega), putL_length _ _ _ (by simp; omega)]; omega)
  have P2 := Lib.hid p2
  have HW1 := Lib.hid hW1
  have u1 : W1.cell? ⟨hh, 2, none⟩ = some (.int .u16 h.kl) := by rw [Lib.cell_of_heap (hd_kept hhd hlh hne G1)]; rfl
  have L1 : (putL (putL cur 0 [.int .u8 h.m]) 1 [.int .u8 h.op]).length = cur.length := by rw [putL_length _ _ _ (by rw [putL_length _ _ _ (by simp; omega)]; simp; omega), putL_length _ _ _ (by simp; omega)]
  have HL1 := Lib.hid L1
  have HG1 := Lib.hid G1
  have HH := Lib.hid hhd
  clear p2 hW1 s1 L1 G1 hhd hr
  go_enter Tryf.func45, Tryf.ntmps45
  go_wp2_with fail
  rw [← HW1.out]
  clear q0 q1 q2 r0 r1 z0 z1
  go_region_held3 (fun w' => w'.cell? ⟨hh, 2, none⟩ = some (.int .u16 h.kl)) (go_keep) (first | (go_at_call 58; refine P2.out.mono ?_; rintro e w2 ⟨rfl, s2, g2⟩; have G2 := Lib.grownBy_trans HG1.out (Lib.grownBy_trans (w := W1.drew) ⟨rfl, rfl, rfl, Nat.le_refl _, fun _ _ _ => rfl⟩ g2); have u2 : w2.cell? ⟨hh, 2, none⟩ = some (.int .u16 h.kl) := (by rw [Lib.cell_of_heap (hd_kept HH.out hlh hne G2)]; rfl); have HS2 := Lib.hid s2; have HG2 := Lib.hid G2; clear s2 g2 G2))
  -- 'b[4] = h.extrasLen; b[5] = h.dataType'
  clear u1 u2 P2
  obtain ⟨c2, hc2⟩ : ∃ c2, c2 = putL (putL (putL cur 0 [.int .u8 h.m]) 1 [.int .u8 h.op]) 2 (Lib.byteCells (Lib.beBytes 2 h.kl)) := ⟨_, rfl⟩
  have l2 : c2.length = cur.length := by rw [hc2, putL_length _ _ _ (by rw [byteCells_length, beBytes_length, HL1.out]; omega), HL1.out]
  have s2 : w2.heap[g]? = some (.cells c2.toArray T (0, 0)) := by rw [hc2]; exact HS2.out
  have q3 : w2.cell? ⟨hh, 3, none⟩ = some (.int .u8 h.el) := by rw [Lib.cell_of_heap (hd_kept HH.out hlh hne HG2.out)]; rfl
  have q4 : w2.cell? ⟨hh, 4, none⟩ = some (.int .u8 h.dt) := by rw [Lib.cell_of_heap (hd_kept HH.out hlh hne HG2.out)]; rfl
  obtain ⟨x4, r4⟩ : ∃ v, w2.cell? ⟨g, 4, none⟩ = some v := ⟨_, some_at s2 4 (by omega)⟩
  obtain ⟨x5, r5⟩ : ∃ v, w2.cell? ⟨g, 5, none⟩ = some v := ⟨_, some_at s2 5 (by omega)⟩
  have z4 : w2.frozen? ⟨g, 4, none⟩ = false := Lib.frozen_of_heap s2 _
  have z5 : w2.frozen? ⟨g, 5, none⟩ = false := Lib.frozen_of_heap s2 _
  obtain ⟨W3, hW3⟩ : ∃ W3, W3 = (w2.setCell ⟨g, 4, none⟩ (.int .u8 h.el)).setCell ⟨g, 5, none⟩ (.int .u8 h.dt) := ⟨_, rfl⟩
  have s3 : W3.heap[g]? = some (.cells (putL (putL c2 4 [.int .u8 h.el]) 5 [.int .u8 h.dt]).toArray T (0, 0)) := by
    rw [hW3, ← set_putL _ 5 _ (by rw [putL_length _ _ _ (by simp; omega)]; omega), ← set_putL c2 4 _ (by omega), Lib.heap_setCell_same (Lib.heap_setCell_same s2 _)]
    simp
  have L3 : (putL (putL c2 4 [.int .u8 h.el]) 5 [.int .u8 h.dt]).length = cur.length := by rw [putL_length _ _ _ (by rw [putL_length _ _ _ (by simp; omega)]; simp; omega), putL_length _ _ _ (by simp; omega), l2]
  have G3 : w.grownBy W3 (some g) := by rw [hW3]; exact Lib.grownBy_setB (Lib.grownBy_setB HG2.out 4 _) 5 _
  have P4 := Lib.hid (put16 h.f6 hf.f6 g 6 18 (c - 6) T _ W3.drew (by omega) s3 (by rw [L3]; omega))
  have u3 : W3.cell? ⟨hh, 5, none⟩ = some (.int .u16 h.f6) := by rw [Lib.cell_of_heap (hd_kept HH.out hlh hne G3)]; rfl
  have HW3 := Lib.hid hW3
  have HL3 := Lib.hid L3
  have HG3 := Lib.hid G3
  have HC2 := Lib.hid hc2
  clear hW3 s3 L3 G3 hc2 s2 l2
  go_wp2_with fail
  rw [← HW3.out]
  clear q3 q4 r4 r5 z4 z5
  go_region_held3 (fun w' => w'.cell? ⟨hh, 5, none⟩ = some (.int .u16 h.f6)) (go_keep) (first | (go_at_call 58; refine P4.out.mono ?_; rintro e w4 ⟨rfl, s4, g4⟩; have G4 := Lib.grownBy_trans HG3.out (Lib.grownBy_trans (w := W3.drew) ⟨rfl, rfl, rfl, Nat.le_refl _, fun _ _ _ => rfl⟩ g4); have u4 : w4.cell? ⟨hh, 5, none⟩ = some (.int .u16 h.f6) := (by rw [Lib.cell_of_heap (hd_kept HH.out hlh hne G4)]; rfl); have HS4 := Lib.hid s4; have HG4 := Lib.hid G4; clear s4 g4 G4))
  -- the body's length
  clear u3 u4 P4
  obtain ⟨c4, hc4⟩ : ∃ c4, c4 = putL (putL (putL c2 4 [.int .u8 h.el]) 5 [.int .u8 h.dt]) 6 (Lib.byteCells (Lib.beBytes 2 h.f6)) := ⟨_, rfl⟩
  have l4 : c4.length = cur.length := by rw [hc4, putL_length _ _ _ (by rw [byteCells_length, beBytes_length, HL3.out]; omega), HL3.out]
  have s4 : w4.heap[g]? = some (.cells c4.toArray T (0, 0)) := by rw [hc4]; exact HS4.out
  have P5 := Lib.hid (put32 h.bl hf.bl g 8 16 (c - 8) T _ w4.drew (by omega) s4 (by rw [l4]; omega))
  have u4 : w4.cell? ⟨hh, 6, none⟩ = some (.int .u32 h.bl) := by rw [Lib.cell_of_heap (hd_kept HH.out hlh hne HG4.out)]; rfl
  have HL4 := Lib.hid l4
  have HC4 := Lib.hid hc4
  clear hc4 s4 l4
  go_wp2_with fail
  go_region_held3 (fun w' => w'.cell? ⟨hh, 6, none⟩ = some (.int .u32 h.bl)) (go_keep) (first | (go_at_call 59; refine P5.out.mono ?_; rintro e w5 ⟨rfl, s5, g5⟩; have G5 := Lib.grownBy_trans HG4.out (Lib.grownBy_trans (w := w4.drew) ⟨rfl, rfl, rfl, Nat.le_refl _, fun _ _ _ => rfl⟩ g5); have u5 : w5.cell? ⟨hh, 6, none⟩ = some (.int .u32 h.bl) := (by rw [Lib.cell_of_heap (hd_kept HH.out hlh hne G5)]; rfl); have HS5 := Lib.hid s5; have HG5 := Lib.hid G5; clear s5 g5 G5))
  -- opaque
  clear u4 u5 P5
  obtain ⟨c5, hc5⟩ : ∃ c5, c5 = putL c4 8 (Lib.byteCells (Lib.beBytes 4 h.bl)) := ⟨_, rfl⟩
  have l5 : c5.length = cur.length := by rw [hc5, putL_length _ _ _ (by rw [byteCells_length, beBytes_length, HL4.out]; omega), HL4.out]
  have s5 : w5.heap[g]? = some (.cells c5.toArray T (0, 0)) := by rw [hc5]; exact HS5.out
  have P6 := Lib.hid (put32 h.oq hf.oq g 12 12 (c - 12) T _ w5.drew (by omega) s5 (by rw [l5]; omega))
  have u5 : w5.cell? ⟨hh, 7, none⟩ = some (.int .u32 h.oq) := by rw [Lib.cell_of_heap (hd_kept HH.out hlh hne HG5.out)]; rfl
  have HL5 := Lib.hid l5
  have HC5 := Lib.hid hc5
  clear hc5 s5 l5
  go_wp2_with fail
  go_region_held3 (fun w' => w'.cell? ⟨hh, 7, none⟩ = some (.int .u32 h.oq)) (go_keep) (first | (go_at_call 59; refine P6.out.mono ?_; rintro e w6 ⟨rfl, s6, g6⟩; have G6 := Lib.grownBy_trans HG5.out (Lib.grownBy_trans (w := w5.drew) ⟨rfl, rfl, rfl, Nat.le_refl _, fun _ _ _ => rfl⟩ g6); have u6 : w6.cell? ⟨hh, 7, none⟩ = some (.int .u32 h.oq) := (by rw [Lib.cell_of_heap (hd_kept HH.out hlh hne G6)]; rfl); have HS6 := Lib.hid s6; have HG6 := Lib.hid G6; clear s6 g6 G6))
  -- cas
  clear u5 u6 P6
  obtain ⟨c6, hc6⟩ : ∃ c6, c6 = putL c5 12 (Lib.byteCells (Lib.beBytes 4 h.oq)) := ⟨_, rfl⟩
  have l6 : c6.length = cur.length := by rw [hc6, putL_length _ _ _ (by rw [byteCells_length, beBytes_length, HL5.out]; omega), HL5.out]
  have s6 : w6.heap[g]? = some (.cells c6.toArray T (0, 0)) := by rw [hc6]; exact HS6.out
  have P7 := Lib.hid (put64 h.cas hf.cas g 16 8 (c - 16) T _ w6.drew (by omega) s6 (by rw [l6]; omega))
  have u6 : w6.cell? ⟨hh, 8, none⟩ = some (.int .u64 h.cas) := by rw [Lib.cell_of_heap (hd_kept HH.out hlh hne HG6.out)]; rfl
  have HC6 := Lib.hid hc6
  clear hc6 s6 l6
  go_wp2_with fail
  go_region_held3 (fun w' => w'.cell? ⟨hh, 8, none⟩ = some (.int .u64 h.cas)) (go_keep) (first | (go_at_call 60; refine P7.out.mono ?_; rintro e w7 ⟨rfl, s7, g7⟩; have G7 := Lib.grownBy_trans HG6.out (Lib.grownBy_trans (w := w6.drew) ⟨rfl, rfl, rfl, Nat.le_refl _, fun _ _ _ => rfl⟩ g7); have u7 : w7.cell? ⟨hh, 8, none⟩ = some (.int .u64 h.cas) := (by rw [Lib.cell_of_heap (hd_kept HH.out hlh hne G7)]; rfl); have HS7 := Lib.hid s7; have HG7 := Lib.hid G7; clear s7 g7 G7))
  clear u6 u7 P7
  go_wp2_with fail
  go_end0
  refine ⟨rfl, ?_, HG7.out⟩
  rw [← put_chain h hf cur hl, ← HC2.out, ← HC4.out, ← HC5.out, ← HC6.out]
  exact HS7.out
end Go.Proofs.Qxb6615679aFmt
