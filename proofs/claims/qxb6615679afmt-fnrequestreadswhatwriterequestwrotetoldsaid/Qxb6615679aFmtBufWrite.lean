/-
  (*bytes.Buffer).Write over this program: the buffer as a predicate ('BufIs': its struct in block b, its row from block Z on), the frame ('Fr': below Z nothing turns but the listed blocks).
-/
import Derived.Test.Qxb6615679aFmtBuf
namespace Go.Proofs.Qxb6615679aFmt
open Go.RowKit

/-- below Z every block is as it was, but for the listed ones; the streams and the tape are as they were -/
structure Fr (Z : Nat) (ex : List Nat) (w w' : World) : Prop where
  os : w'.os = w.os
  tape : w'.tape = w.tape
  output : w'.output = w.output
  size : w.heap.size ≤ w'.heap.size
  block : ∀ k, k < Z → k ∉ ex → w'.heap[k]? = w.heap[k]?

theorem Fr.refl (Z : Nat) (ex : List Nat) (w : World) : Fr Z ex w w := ⟨rfl, rfl, rfl, Nat.le_refl _, fun _ _ _ => rfl⟩
theorem Fr.trans {Z : Nat} {ex : List Nat} {a b c : World} (h : Fr Z ex a b) (k : Fr Z ex b c) : Fr Z ex a c :=
  ⟨k.os.trans h.os, k.tape.trans h.tape, k.output.trans h.output, Nat.le_trans h.size k.size, fun i hi hx => (k.block i hi hx).trans (h.block i hi hx)⟩
theorem Fr.mono {Z : Nat} {ex ex' : List Nat} {a b : World} (h : Fr Z ex a b) (hs : ∀ k, k ∈ ex → k ∈ ex') : Fr Z ex' a b :=
  ⟨h.os, h.tape, h.output, h.size, fun k hk hx => h.block k hk (fun hm => hx (hs k hm))⟩
theorem Fr.less {Z Z' : Nat} {ex : List Nat} {a b : World} (h : Fr Z ex a b) (hz : Z' ≤ Z) : Fr Z' ex a b :=
  ⟨h.os, h.tape, h.output, h.size, fun k hk hx => h.block k (Nat.lt_of_lt_of_le hk hz) hx⟩
theorem Fr.drew {Z : Nat} {ex : List Nat} {a w : World} (h : Fr Z ex a w) : Fr Z ex a w.drew := ⟨h.os, h.tape, h.output, h.size, h.block⟩
theorem Fr.drewN {Z : Nat} {ex : List Nat} {a w : World} (h : Fr Z ex a w) (n : Nat) : Fr Z ex a (w.drewN n) := h.trans ⟨rfl, rfl, rfl, Nat.le_refl _, fun _ _ _ => rfl⟩
theorem Fr.alloc {Z : Nat} {ex : List Nat} {a w : World} (h : Fr Z ex a w) (hZ : Z ≤ w.heap.size) (o : Obj) : Fr Z ex a (w.alloc o) :=
  h.trans ⟨rfl, rfl, rfl, by simp, fun k hk _ => Below.heap_alloc _ _ _ (by omega)⟩
theorem Fr.setCell {Z : Nat} {ex : List Nat} {a w : World} (h : Fr Z ex a w) {p : Addr} (hp : p.block ∈ ex ∨ Z ≤ p.block) (u : Value) : Fr Z ex a (w.setCell p u) :=
  h.trans ⟨rfl, rfl, rfl, by simp [World.setCell], fun k hk hx => Below.heap_setCell _ _ _ _ (fun e => by
    rcases hp with hp | hp
    · exact hx (by rw [e]; exact hp)
    · omega)⟩
theorem Fr.setRow {Z : Nat} {ex : List Nat} {a w : World} (h : Fr Z ex a w) {g : Nat} (hp : g ∈ ex ∨ Z ≤ g) (cs : Array Value) : Fr Z ex a (w.setRow g cs) :=
  h.trans ⟨rfl, rfl, rfl, by simp [World.setRow], fun k hk hx => setRow_other _ _ _ _ (fun e => by
    rcases hp with hp | hp
    · exact hx (by rw [e]; exact hp)
    · omega)⟩
theorem Fr.grown {Z b : Nat} {ex : List Nat} {a w w' : World} (h : Fr Z ex a w) (hg : w.grownBy w' (some b)) (hb : b ∈ ex) (hZ : Z ≤ w.heap.size) : Fr Z ex a w' :=
  h.trans ⟨hg.os, hg.tape, hg.output, hg.size, fun k hk hx => hg.block k (by omega) (fun e => hx (by cases e; exact hb))⟩
theorem Fr.below {Z : Nat} {ex : List Nat} {a w w' : World} (h : Fr Z ex a w) (hg : Below w.heap.size w w') (hZ : Z ≤ w.heap.size) : Fr Z ex a w' :=
  h.trans ⟨hg.os, hg.tape, hg.output, hg.size, fun k hk _ => hg.block k (by omega)⟩
theorem Fr.to_below {Z : Nat} {ex : List Nat} {B : Nat} {w w' : World} (h : Fr Z ex w w') (hB : B ≤ Z) (hx : ∀ k, k ∈ ex → B ≤ k) : Below B w w' :=
  ⟨h.os, h.tape, h.output, h.size, fun k hk => h.block k (by omega) (fun hm => by have := hx k hm; omega)⟩
theorem Fr.cell {Z : Nat} {ex : List Nat} {w w' : World} (h : Fr Z ex w w') {p : Addr} (hp : p.block < Z) (hx : p.block ∉ ex) : w'.cell? p = w.cell? p := World.cell?_of_block (w := w) (h.block p.block hp hx)
theorem Fr.frozen {Z : Nat} {ex : List Nat} {w w' : World} (h : Fr Z ex w w') {p : Addr} (hp : p.block < Z) (hx : p.block ∉ ex) : w'.frozen? p = w.frozen? p := World.frozen?_of_block (w := w) (h.block p.block hp hx)

/-- a bytes.Buffer that has only been written: its struct is block b; it holds the cells bs; its row, where it has one, is a block from Z on -/
def BufIs (b Z : Nat) (bs : List Value) (w : World) : Prop :=
  ∃ ao cap lr, w.heap[b]? = some (.cells #[.slice ao bs.length cap, .int .i64 0, .int .i8 lr] 65 (0, 0)) ∧ b < Z ∧
    ((bs = [] ∧ ao = none ∧ cap = 0) ∨ (0 < bs.length ∧ ∃ g cur, ao = some ⟨g, 0, none⟩ ∧ Z ≤ g ∧ w.heap[g]? = some (.cells cur 5 (0, 0)) ∧ bs.length ≤ cap ∧ cap ≤ maxLen ∧ cur.size = cap ∧ cur.toList.take bs.length = bs))

theorem grow_any (b Z n : Nat) (bs : List Value) (ao : Option Addr) (cap : Nat) (lr : Int) (w : World)
    (hbk : w.heap[b]? = some (.cells #[.slice ao bs.length cap, .int .i64 0, .int .i8 lr] 65 (0, 0))) (hbZ : b < Z)
    (hc : (bs = [] ∧ ao = none ∧ cap = 0) ∨ (0 < bs.length ∧ ∃ g cur, ao = some ⟨g, 0, none⟩ ∧ Z ≤ g ∧ w.heap[g]? = some (.cells cur 5 (0, 0)) ∧ bs.length ≤ cap ∧ cap ≤ maxLen ∧ cur.size = cap ∧ cur.toList.take bs.length = bs))
    (h1 : ∀ v ∈ bs, v.oneCell' = true) (hn : 1 ≤ n) (hroom : cap - bs.length < n) (hlim : bs.length + n ≤ 140737488355328) :
    Calls Tryf.prog 87 #[.pointer (some ⟨b, 0, none⟩), .int .i64 n] w fun e w' => e = .returned (.int .i64 bs.length) ∧ Grew b bs.length n bs w w' := by
  rcases hc with ⟨rfl, rfl, rfl⟩ | ⟨hl0, g, cur, rfl, hZg, hg, hlc, hcm, hcs, htk⟩
  · by_cases h64 : n ≤ 64
    · exact grow_small b n lr w hbk hn h64
    · exact grow_big b n lr w hbk (by omega) (by simp at hlim; omega)
  · exact grow_row b g bs.length cap n lr cur bs w hbk rfl hl0 hg hlc hcm hcs htk (by omega) h1 hn hroom hlim

/-- the buffer with n more places behind its bytes, ready to be written -/
def Ready (b Z n : Nat) (bs : List Value) (w : World) : Prop :=
  ∃ g cap cur lr, w.heap[b]? = some (.cells #[.slice (some ⟨g, 0, none⟩) (bs.length + n) cap, .int .i64 0, .int .i8 lr] 65 (0, 0)) ∧ Z ≤ g ∧ w.heap[g]? = some (.cells cur 5 (0, 0)) ∧ cur.size = cap ∧ cur.toList.take bs.length = bs ∧ bs.length + n ≤ cap ∧ cap ≤ maxLen

/-- the two shapes of the struct -/
def Shape (Z : Nat) (bs : List Value) (ao : Option Addr) (cap : Nat) (w : World) : Prop :=
  (bs = [] ∧ ao = none ∧ cap = 0) ∨ (0 < bs.length ∧ ∃ g cur, ao = some ⟨g, 0, none⟩ ∧ Z ≤ g ∧ w.heap[g]? = some (.cells cur 5 (0, 0)) ∧ bs.length ≤ cap ∧ cap ≤ maxLen ∧ cur.size = cap ∧ cur.toList.take bs.length = bs)

theorem Shape.le {Z : Nat} {bs : List Value} {ao : Option Addr} {cap : Nat} {w : World} (h : Shape Z bs ao cap w) : bs.length ≤ cap ∧ cap ≤ maxLen := by
  rcases h with ⟨e, _, e2⟩ | ⟨_, g, cur, _, _, _, h, h', _⟩
  · rw [e, e2]; exact ⟨Nat.le_refl _, Nat.zero_le _⟩
  · exact ⟨h, h'⟩

theorem try_room (b Z n : Nat) (bs : List Value) (ao : Option Addr) (cap : Nat) (lr : Int) (w : World)
    (hbk : w.heap[b]? = some (.cells #[.slice ao bs.length cap, .int .i64 0, .int .i8 lr] 65 (0, 0))) (hbZ : b < Z) (hc : Shape Z bs ao cap w) (hn : 1 ≤ n) (hroom : n ≤ cap - bs.length) :
    Calls Tryf.prog 86 #[.pointer (some ⟨b, 0, none⟩), .int .i64 n] w fun e w' => e = .returned (.tuple #[.int .i64 bs.length, .bool true]) ∧ Ready b Z n bs w' ∧ Fr Z [b] w w' := by
  have hle := hc.le
  refine (Tryf.Buffer_tryGrow_room b ao bs.length cap n w (by rw [Lib.cell_of_heap hbk]; rfl) (Lib.frozen_of_heap hbk 0) hle.1 hle.2 hroom).mono ?_
  rintro e w' ⟨rfl, rfl⟩
  rcases hc with ⟨e1, _, e2⟩ | ⟨hl0, g, cur, rfl, hZg, hg, hlc, hcm, hcs, htk⟩
  · rw [e2] at hroom
    omega
  · refine ⟨rfl, ⟨g, cap, cur, lr, ?_, hZg, ?_, hcs, htk, by omega, hcm⟩, (Fr.refl _ _ _).setCell (.inl (by simp)) _⟩
    · rw [Lib.heap_setCell_same hbk]; rfl
    · rw [Below.heap_setCell _ _ _ _ (by show g ≠ b; omega)]; exact hg

theorem grow_ready (b Z n : Nat) (bs : List Value) (ao : Option Addr) (cap : Nat) (lr : Int) (w : World)
    (hbk : w.heap[b]? = some (.cells #[.slice ao bs.length cap, .int .i64 0, .int .i8 lr] 65 (0, 0))) (hbZ : b < Z) (hZ : Z ≤ w.heap.size) (hc : Shape Z bs ao cap w)
    (h1 : ∀ v ∈ bs, v.oneCell' = true) (hn : 1 ≤ n) (hroom : cap - bs.length < n) (hlim : bs.length + n ≤ 140737488355328) :
    Calls Tryf.prog 87 #[.pointer (some ⟨b, 0, none⟩), .int .i64 n] w fun e w' => e = .returned (.int .i64 bs.length) ∧ Ready b Z n bs w' ∧ Fr Z [b] w w' := by
  refine (grow_any b Z n bs ao cap lr w hbk hbZ hc h1 hn hroom hlim).mono ?_
  rintro e w' ⟨rfl, cap2, cells, lr2, k1, k2, k3, k4, k5, k6, k7⟩
  exact ⟨rfl, ⟨_, cap2, cells, lr2, k1, hZ, k2, k3, k4, k5, k6⟩, (Fr.refl _ _ _).grown k7 (by simp) hZ⟩

/-- what the copy's end leaves -/
theorem buf_written {b Z g cap : Nat} {lr : Int} {cur : Array Value} {bs news : List Value} {w : World} (hbZ : b < Z) (hZg : Z ≤ g)
    (hbk : w.heap[b]? = some (.cells #[.slice (some ⟨g, 0, none⟩) (bs.length + news.length) cap, .int .i64 0, .int .i8 lr] 65 (0, 0))) (hg : w.heap[g]? = some (.cells cur 5 (0, 0)))
    (hcm : cap ≤ maxLen) (hcs : cur.size = cap) (hn : bs.length + news.length ≤ cap) (htk : cur.toList.take bs.length = bs) (hpos : 0 < news.length) :
    BufIs b Z (bs ++ news) (w.setRow g (cur.toList.take bs.length ++ news ++ cur.toList.drop (bs.length + news.length)).toArray) := by
  rw [htk]
  have hsz : (bs ++ news ++ cur.toList.drop (bs.length + news.length)).toArray.size = cap := by
    simp only [List.size_toArray, List.length_append, List.length_drop, Array.length_toList]; omega
  refine ⟨some ⟨g, 0, none⟩, cap, lr, ?_, hbZ, .inr ⟨by rw [List.length_append]; omega, g, _, rfl, hZg, setRow_heap w g cur _ 5 (0, 0) hg, by rw [List.length_append]; exact hn, hcm, hsz, ?_⟩⟩
  · rw [setRow_other _ _ _ _ (by omega), List.length_append]
    exact hbk
  · exact List.take_left' (by rw [List.length_append])

set_option maxHeartbeats 4000000 in
set_option maxRecDepth 100000 in
theorem bufWrite (b Z : Nat) (bs cs : List Value) (a : Addr) (n c : Nat) (w : World) (h : BufIs b Z bs w) (hZ : Z ≤ w.heap.size) (h1 : ∀ v ∈ bs, v.oneCell' = true)
    (hn : cs.length = n) (hpos : 1 ≤ n) (haZ : a.block < Z) (hab : a.block ≠ b) (hsrc : ∀ j v, cs[j]? = some v → w.cell? (a.add j) = some v) (h1c : ∀ v ∈ cs, v.oneCell' = true) (hlim : bs.length + n ≤ 140737488355328) :
    Calls Tryf.prog 84 #[.pointer (some ⟨b, 0, none⟩), .slice (some a) n c] w fun e w' => e = .returned (.tuple #[.int .i64 n, .nilIface]) ∧ BufIs b Z (bs ++ cs) w' ∧ Fr Z [b] w w' := by
  obtain ⟨ao, cap, lr, hbk, hbZ, hc⟩ := h
  have hc : Shape Z bs ao cap w := hc
  have hinfo : (Tryf.prog.info? 5).map (·.size) = some 1 := by kernel_rfl
  have c2 : w.cell? ⟨b, 2, none⟩ = some (.int .i8 lr) := by rw [Lib.cell_of_heap hbk]; rfl
  have f2 : w.frozen? ⟨b, 2, none⟩ = false := Lib.frozen_of_heap hbk 2
  have hbk0 : (w.setCell ⟨b, 2, none⟩ (.int .i8 0)).heap[b]? = some (.cells #[.slice ao bs.length cap, .int .i64 0, .int .i8 0] 65 (0, 0)) := by rw [Lib.heap_setCell_same hbk]; rfl
  have F0 : Fr Z [b] w (w.setCell ⟨b, 2, none⟩ (.int .i8 0)) := (Fr.refl _ _ _).setCell (.inl (by simp)) _
  have z0 : Z ≤ (w.setCell ⟨b, 2, none⟩ (.int .i8 0)).heap.size := Nat.le_trans hZ F0.size
  have hc0 : Shape Z bs ao cap (w.setCell ⟨b, 2, none⟩ (.int .i8 0)) := by
    rcases hc with hc | ⟨hl0, g, cur, e1, hZg, hg, rest⟩
    · exact .inl hc
    · exact .inr ⟨hl0, g, cur, e1, hZg, by rw [Below.heap_setCell _ _ _ _ (by show g ≠ b; omega)]; exact hg, rest⟩
  have hle := hc.le
  have hcell : ∀ W : World, Fr Z [b] w W → ∀ j v, cs[j]? = some v → W.cell? (a.add j) = some v := fun W hF j v hj => (hF.cell (by rw [Lib.block_add]; exact haZ) (by rw [Lib.block_add]; simpa using hab)).trans (hsrc j v hj)
  by_cases hroom : n ≤ cap - bs.length
  · have hT := Lib.hid (try_room b Z n bs ao cap 0 _ hbk0 hbZ hc0 hpos hroom)
    have HF := Lib.hid F0
    have HS := Lib.hid hcell
    clear hc hc0 hbk0 F0 hbk hsrc hcell z0 hle h1
    go_enter Tryf.func84, Tryf.ntmps84
    go_wp2_with fail
    refine hT.out.mono ?_
    rintro e W1 ⟨rfl, ⟨g, cp, cur, lr1, hb1, hZg, hg, hcs, htk, hcap, hcm⟩, F1⟩
    have FW := HF.out.trans F1
    have d0 : W1.cell? ⟨b, 0, none⟩ = some (.slice (some ⟨g, 0, none⟩) (bs.length + n) cp) := by rw [Lib.cell_of_heap hb1]; rfl
    have hne : ¬ cp = bs.length := by omega
    have hcp := run_copy_row (P := Tryf.prog) W1 25 25 3 5 g bs.length n (cp - bs.length) a n c cur 5 cs Tryf.underlying25 hinfo hg (by rw [hn]; exact (Nat.min_self n).symm) (HS.out W1 FW) (by rw [hn]; omega) h1c
    rw [hn] at hcp
    have hcm' := hcm
    unfold maxLen at hcm'
    clear HS hT
    go_wp2
    go_ret2
    have hwr := buf_written (news := cs) hbZ hZg (by rw [hn]; exact hb1) hg hcm hcs (by rw [hn]; exact hcap) htk (by omega)
    rw [hn, htk, List.append_assoc] at hwr
    exact ⟨rfl, hwr, FW.setRow (.inr hZg) _⟩
  · have hT := Lib.hid (Tryf.Buffer_tryGrow_none b ao bs.length cap n (w.setCell ⟨b, 2, none⟩ (.int .i8 0)) (by rw [Lib.cell_of_heap hbk0]; rfl) hle.1 hle.2 (by omega))
    have hG := Lib.hid (grow_ready b Z n bs ao cap 0 _ hbk0 hbZ z0 hc0 h1 hpos (by omega) hlim)
    have HF := Lib.hid F0
    have HS := Lib.hid hcell
    clear hc hc0 hbk0 F0 hbk hsrc hcell z0 hle h1
    go_enter Tryf.func84, Tryf.ntmps84
    go_wp2_with fail
    refine hT.out.mono ?_
    rintro e W0 ⟨rfl, rfl⟩
    go_wp2_with fail
    refine hG.out.mono ?_
    rintro e W1 ⟨rfl, ⟨g, cp, cur, lr1, hb1, hZg, hg, hcs, htk, hcap, hcm⟩, F1⟩
    have FW := HF.out.trans F1
    have d0 : W1.cell? ⟨b, 0, none⟩ = some (.slice (some ⟨g, 0, none⟩) (bs.length + n) cp) := by rw [Lib.cell_of_heap hb1]; rfl
    have hne : ¬ cp = bs.length := by omega
    have hcp := run_copy_row (P := Tryf.prog) W1 25 25 3 5 g bs.length n (cp - bs.length) a n c cur 5 cs Tryf.underlying25 hinfo hg (by rw [hn]; exact (Nat.min_self n).symm) (HS.out W1 FW) (by rw [hn]; omega) h1c
    rw [hn] at hcp
    have hcm' := hcm
    unfold maxLen at hcm'
    clear HS hT hG
    go_wp2
    go_ret2
    have hwr := buf_written (news := cs) hbZ hZg (by rw [hn]; exact hb1) hg hcm hcs (by rw [hn]; exact hcap) htk (by omega)
    rw [hn, htk, List.append_assoc] at hwr
    exact ⟨rfl, hwr, FW.setRow (.inr hZg) _⟩
end Go.Proofs.Qxb6615679aFmt
