import Derived.Test.Qxb6616399aClone
import Derived.Conc.SmallLaws
import Derived.Conc.MuLone
import Derived.Conc.EventLaws
namespace Go.Proofs.Qxb6616399a
open Go.RowKit Go.Conc

theorem mk0 (w : World) : (Instr.makeChan 37 (.int .i64 0)).run Try.prog w = .ok (.chan (some w.heap.size)) (w.alloc (.chan 0 #[] false 0 0 false)) := by
  have h : (Try.prog.info? 46).map (·.bytes) = some 0 := by kernel_rfl
  obtain ⟨i, hi, hb⟩ := Option.map_eq_some_iff.1 h
  simpa using run_makeChan (P := Try.prog) (w := w) Try.underlying37 hi .i64 0 (by omega) (by rw [hb]; omega)

/-- A connection's 32 cells: the lock's state word, the names, the two flows' six cells, the two flags, the channel. -/
def connCells (m : Int) (n0 n1 : ByteArray) (v0 v1 v2 v3 v4 v5 : Value) (cut br : Bool) (c : Nat) : Array Value :=
  #[.pointer none, .string n0, .string n1, .pointer none, .int .i64 0, .bool false, .int .u64 0, .int .i64 0, .pointer none, .int .u64 0, .int .i64 0, .pointer none,
    .pointer none, .int .i64 0, .bool false, .int .u64 0, .int .i64 0, .pointer none, .int .u64 0, .int .i64 0, .pointer none,
    .int .i32 m, .int .u32 0, v0, v1, v2, v3, v4, v5, .bool cut, .bool br, .chan (some c)]

/-- In block b lies a connection, its channel open in block c. -/
structure ConnAt (w : World) (b c : Nat) (m : Int) (n0 n1 : ByteArray) (v0 v1 v2 v3 v4 v5 : Value) (cut br : Bool) : Prop where
  blk : w.heap[b]? = some (.cells (connCells m n0 n1 v0 v1 v2 v3 v4 v5 cut br c) 54 (0, 0))
  chn : w.heap[c]? = some (.chan 0 #[] false 0 0 false)

theorem ConnAt.ne {w : World} {b c : Nat} {m : Int} {n0 n1 : ByteArray} {v0 v1 v2 v3 v4 v5 : Value} {cut br : Bool} (h : ConnAt w b c m n0 n1 v0 v1 v2 v3 v4 v5 cut br) : c ≠ b := by
  intro e; subst e
  have h1 := h.blk
  rw [h.chn] at h1
  simp at h1

set_option maxHeartbeats 400000 in
theorem new_any (n0 n1 : ByteArray) (a0 a1 : Option Addr) (l0 c0 l1 c1 : Nat) (o0 o1 : Int) (s0 s1 cut : Bool) (w : World) :
    Calls Try.prog 9 #[.string n0, .string n1, .slice a0 l0 c0, .int .i64 o0, .bool s0, .slice a1 l1 c1, .int .i64 o1, .bool s1, .bool cut] w fun e w' =>
      e = .returned (.pointer (some ⟨w.heap.size + 1, 0, none⟩)) ∧ w' = (w.alloc (.chan 0 #[] false 0 0 false)).alloc (.cells (connCells 0 n0 n1 (.slice a0 l0 c0) (.int .i64 o0) (.bool s0) (.slice a1 l1 c1) (.int .i64 o1) (.bool s1) cut false w.heap.size) 54) := by
  have hmk := mk0
  go_enter Try.func9, Try.ntmps9
  go_wp2
  go_ret
  exact ⟨rfl, rfl⟩

/-- The channel in block c closed. -/
def closeAt (w : World) (c : Nat) : World := { w with heap := w.heap.setIfInBounds c (.chan 0 #[] true 0 0 false) }

theorem closeAt_size (w : World) (c : Nat) : (closeAt w c).heap.size = w.heap.size := by simp [closeAt]
theorem closeAt_other (w : World) (c k : Nat) (h : k ≠ c) : (closeAt w c).heap[k]? = w.heap[k]? := by
  simp only [closeAt]
  rw [Array.getElem?_setIfInBounds_ne (fun e => h e.symm)]

/-- What 'signal' leaves. -/
def sigW (w : World) (b c : Nat) : World := ((closeAt w c).setCell ⟨b, 31, none⟩ (.chan (some w.heap.size))).alloc (.chan 0 #[] false 0 0 false)

set_option maxHeartbeats 400000 in
theorem signal_any (b c : Nat) (w : World) (hne : c ≠ b) (hc : w.cell? ⟨b, 31, none⟩ = some (.chan (some c))) (hf : w.frozen? ⟨b, 31, none⟩ = false) (hch : w.heap[c]? = some (.chan 0 #[] false 0 0 false)) :
    Calls Try.prog 20 #[.pointer (some ⟨b, 0, none⟩)] w fun e w' => e = .returned (.tuple #[]) ∧ w' = sigW w b c := by
  have hmk := mk0
  have hcl : ∀ ats ty, (Builtin.close_ ats ty #[.chan (some c)]).run Try.prog w = .ok (.tuple #[]) (closeAt w c) := fun ats ty => run_close_open ats ty hch
  have hsz := closeAt_size w c
  have hb : b < w.heap.size := World.block_lt_of_cell? _ _ hc
  have e1 : (closeAt w c).cell? ⟨b, 31, none⟩ = some (.chan (some c)) := (World.cell?_of_block (closeAt_other w c b (fun e => hne e.symm))).trans hc
  have e2 : (closeAt w c).frozen? ⟨b, 31, none⟩ = false := (World.frozen?_of_block (closeAt_other w c b (fun e => hne e.symm))).trans hf
  clear hch
  go_enter Try.func20, Try.ntmps20
  go_wp2
  go_end0
  exact ⟨rfl, rfl⟩

/-- The eight stores ahead of 'signal'. -/
def brkW (w : World) (b : Nat) : World :=
  (((((((w.setCell ⟨b, 21, none⟩ (.int .i32 1)).setCell ⟨b, 30, none⟩ (.bool true)).setCell ⟨b, 23, none⟩ (.slice none 0 0)).setCell ⟨b, 24, none⟩ (.int .i64 0)).setCell ⟨b, 25, none⟩ (.bool false)).setCell ⟨b, 26, none⟩ (.slice none 0 0)).setCell ⟨b, 27, none⟩ (.int .i64 0)).setCell ⟨b, 28, none⟩ (.bool false)

theorem cc21 (m : Int) (n0 n1 : ByteArray) (v0 v1 v2 v3 v4 v5 : Value) (cut br : Bool) (c : Nat) (q : Int) : (connCells m n0 n1 v0 v1 v2 v3 v4 v5 cut br c).setIfInBounds 21 (.int .i32 q) = connCells q n0 n1 v0 v1 v2 v3 v4 v5 cut br c := rfl
theorem cc23 (m : Int) (n0 n1 : ByteArray) (v0 v1 v2 v3 v4 v5 : Value) (cut br : Bool) (c : Nat) (q : Value) : (connCells m n0 n1 v0 v1 v2 v3 v4 v5 cut br c).setIfInBounds 23 q = connCells m n0 n1 q v1 v2 v3 v4 v5 cut br c := rfl
theorem cc24 (m : Int) (n0 n1 : ByteArray) (v0 v1 v2 v3 v4 v5 : Value) (cut br : Bool) (c : Nat) (q : Value) : (connCells m n0 n1 v0 v1 v2 v3 v4 v5 cut br c).setIfInBounds 24 q = connCells m n0 n1 v0 q v2 v3 v4 v5 cut br c := rfl
theorem cc25 (m : Int) (n0 n1 : ByteArray) (v0 v1 v2 v3 v4 v5 : Value) (cut br : Bool) (c : Nat) (q : Value) : (connCells m n0 n1 v0 v1 v2 v3 v4 v5 cut br c).setIfInBounds 25 q = connCells m n0 n1 v0 v1 q v3 v4 v5 cut br c := rfl
theorem cc26 (m : Int) (n0 n1 : ByteArray) (v0 v1 v2 v3 v4 v5 : Value) (cut br : Bool) (c : Nat) (q : Value) : (connCells m n0 n1 v0 v1 v2 v3 v4 v5 cut br c).setIfInBounds 26 q = connCells m n0 n1 v0 v1 v2 q v4 v5 cut br c := rfl
theorem cc27 (m : Int) (n0 n1 : ByteArray) (v0 v1 v2 v3 v4 v5 : Value) (cut br : Bool) (c : Nat) (q : Value) : (connCells m n0 n1 v0 v1 v2 v3 v4 v5 cut br c).setIfInBounds 27 q = connCells m n0 n1 v0 v1 v2 v3 q v5 cut br c := rfl
theorem cc28 (m : Int) (n0 n1 : ByteArray) (v0 v1 v2 v3 v4 v5 : Value) (cut br : Bool) (c : Nat) (q : Value) : (connCells m n0 n1 v0 v1 v2 v3 v4 v5 cut br c).setIfInBounds 28 q = connCells m n0 n1 v0 v1 v2 v3 v4 q cut br c := rfl
theorem cc30 (m : Int) (n0 n1 : ByteArray) (v0 v1 v2 v3 v4 v5 : Value) (cut br : Bool) (c : Nat) (q : Bool) : (connCells m n0 n1 v0 v1 v2 v3 v4 v5 cut br c).setIfInBounds 30 (.bool q) = connCells m n0 n1 v0 v1 v2 v3 v4 v5 cut q c := rfl
theorem cc31 (m : Int) (n0 n1 : ByteArray) (v0 v1 v2 v3 v4 v5 : Value) (cut br : Bool) (c : Nat) (q : Nat) : (connCells m n0 n1 v0 v1 v2 v3 v4 v5 cut br c).setIfInBounds 31 (.chan (some q)) = connCells m n0 n1 v0 v1 v2 v3 v4 v5 cut br q := rfl

theorem conn_set {w : World} {b : Nat} {cs cs' : Array Value} (h : w.heap[b]? = some (.cells cs 54 (0, 0))) (k : Nat) (u : Value) (e : cs.setIfInBounds k u = cs') : (w.setCell ⟨b, k, none⟩ u).heap[b]? = some (.cells cs' 54 (0, 0)) := by
  rw [← e]
  exact heap_setCell_same w b k cs 54 u h

theorem brkW_conn {w : World} {b c : Nat} {n0 n1 : ByteArray} {v0 v1 v2 v3 v4 v5 : Value} {cut br : Bool} (h : ConnAt w b c 0 n0 n1 v0 v1 v2 v3 v4 v5 cut br) :
    ConnAt (brkW w b) b c 1 n0 n1 (.slice none 0 0) (.int .i64 0) (.bool false) (.slice none 0 0) (.int .i64 0) (.bool false) cut true := by
  refine ⟨?_, ?_⟩
  · exact conn_set (conn_set (conn_set (conn_set (conn_set (conn_set (conn_set (conn_set h.blk 21 _ (cc21 ..)) 30 _ (cc30 ..)) 23 _ (cc23 ..)) 24 _ (cc24 ..)) 25 _ (cc25 ..)) 26 _ (cc26 ..)) 27 _ (cc27 ..)) 28 _ (cc28 ..)
  · have hne := h.ne
    unfold brkW
    rw [heap_setCell_other _ _ _ _ hne, heap_setCell_other _ _ _ _ hne, heap_setCell_other _ _ _ _ hne, heap_setCell_other _ _ _ _ hne, heap_setCell_other _ _ _ _ hne, heap_setCell_other _ _ _ _ hne, heap_setCell_other _ _ _ _ hne, heap_setCell_other _ _ _ _ hne]
    exact h.chn

theorem brkW_other (w : World) (b k : Nat) (hne : k ≠ b) : (brkW w b).heap[k]? = w.heap[k]? := by
  unfold brkW
  rw [heap_setCell_other _ _ _ _ hne, heap_setCell_other _ _ _ _ hne, heap_setCell_other _ _ _ _ hne, heap_setCell_other _ _ _ _ hne, heap_setCell_other _ _ _ _ hne, heap_setCell_other _ _ _ _ hne, heap_setCell_other _ _ _ _ hne, heap_setCell_other _ _ _ _ hne]

theorem brkW_size (w : World) (b : Nat) : (brkW w b).heap.size = w.heap.size := by simp [brkW]

theorem ConnAt.cell {w : World} {b c : Nat} {m : Int} {n0 n1 : ByteArray} {v0 v1 v2 v3 v4 v5 : Value} {cut br : Bool} (h : ConnAt w b c m n0 n1 v0 v1 v2 v3 v4 v5 cut br) (j : Nat) :
    w.cell? ⟨b, j, none⟩ = (connCells m n0 n1 v0 v1 v2 v3 v4 v5 cut br c)[j]? := cell_of_row w b j _ 54 _ h.blk
theorem ConnAt.free {w : World} {b c : Nat} {m : Int} {n0 n1 : ByteArray} {v0 v1 v2 v3 v4 v5 : Value} {cut br : Bool} (h : ConnAt w b c m n0 n1 v0 v1 v2 v3 v4 v5 cut br) (j : Nat) :
    w.frozen? ⟨b, j, none⟩ = false := frozen_of_row w b j _ 54 h.blk

theorem sigW_conn {w : World} {b c : Nat} {m : Int} {n0 n1 : ByteArray} {v0 v1 v2 v3 v4 v5 : Value} {cut br : Bool} (h : ConnAt w b c m n0 n1 v0 v1 v2 v3 v4 v5 cut br) :
    ConnAt (sigW w b c) b w.heap.size m n0 n1 v0 v1 v2 v3 v4 v5 cut br := by
  have hb := lt_of_block h.blk
  have hne := h.ne
  have hsz : ((closeAt w c).setCell ⟨b, 31, none⟩ (.chan (some w.heap.size))).heap.size = w.heap.size := by simp [closeAt_size]
  refine ⟨?_, ?_⟩
  · have h0 : (closeAt w c).heap[b]? = some (.cells (connCells m n0 n1 v0 v1 v2 v3 v4 v5 cut br c) 54 (0, 0)) := (closeAt_other w c b (fun e => hne e.symm)).trans h.blk
    have h1 := conn_set h0 31 _ (cc31 _ _ _ _ _ _ _ _ _ _ _ _ w.heap.size)
    unfold sigW
    rw [Below.heap_alloc _ _ _ (by rw [hsz]; exact hb)]
    exact h1
  · have := heap_alloc_new ((closeAt w c).setCell ⟨b, 31, none⟩ (.chan (some w.heap.size))) (.chan 0 #[] false 0 0 false)
    rw [hsz] at this
    exact this

theorem sigW_other (w : World) (b c k : Nat) (hb : k ≠ b) (hc : k ≠ c) (hk : k < w.heap.size) : (sigW w b c).heap[k]? = w.heap[k]? := by
  unfold sigW
  rw [Below.heap_alloc _ _ _ (by simp [closeAt_size]; exact hk), heap_setCell_other _ _ _ _ hb, closeAt_other w c k hc]

theorem unlW_conn {w : World} {b c : Nat} {m : Int} {n0 n1 : ByteArray} {v0 v1 v2 v3 v4 v5 : Value} {cut br : Bool} (h : ConnAt w b c m n0 n1 v0 v1 v2 v3 v4 v5 cut br) :
    ConnAt (w.setCell ⟨b, 21, none⟩ (.int .i32 0)) b c 0 n0 n1 v0 v1 v2 v3 v4 v5 cut br :=
  ⟨conn_set h.blk 21 _ (cc21 ..), by rw [heap_setCell_other _ _ _ _ h.ne]; exact h.chn⟩

/-- What one call of 'breakOff' leaves. -/
def offW (w : World) (b c : Nat) : World := (sigW (brkW w b) b c).setCell ⟨b, 21, none⟩ (.int .i32 0)

open Go.MuLone
set_option maxHeartbeats 400000 in
theorem breakOff_any (b c : Nat) (n0 n1 : ByteArray) (v0 v1 v2 v3 v4 v5 : Value) (cut br : Bool) (w : World) (h : ConnAt w b c 0 n0 n1 v0 v1 v2 v3 v4 v5 cut br) :
    Calls Try.prog 13 #[.pointer (some ⟨b, 0, none⟩)] w fun e w' => e = .returned (.tuple #[]) ∧ w' = offW w b c := by
  have hne := h.ne
  have c21 : w.cell? ⟨b, 21, none⟩ = some (.int .i32 0) := h.cell 21
  have c23 : w.cell? ⟨b, 23, none⟩ = some v0 := h.cell 23
  have c24 : w.cell? ⟨b, 24, none⟩ = some v1 := h.cell 24
  have c25 : w.cell? ⟨b, 25, none⟩ = some v2 := h.cell 25
  have c26 : w.cell? ⟨b, 26, none⟩ = some v3 := h.cell 26
  have c27 : w.cell? ⟨b, 27, none⟩ = some v4 := h.cell 27
  have c28 : w.cell? ⟨b, 28, none⟩ = some v5 := h.cell 28
  have c30 : w.cell? ⟨b, 30, none⟩ = some (.bool br) := h.cell 30
  have hf : ∀ k, w.frozen? ⟨b, k, none⟩ = false := h.free
  have hB := brkW_conn h
  have hS := sigW_conn hB
  have HB : Hid _ := hB
  have HS : Hid _ := hS
  clear hB hS h
  go_enter_defers Try.func13, Try.ntmps13
  go_wp2_with (go_at_call 18; refine (lock_free Try.muLib ⟨b, 21, none⟩ _ c21 (hf 21)).mono ?_; rintro e w' ⟨rfl, rfl⟩)
  refine (signal_any b c (brkW w b) hne (HB.out.cell 31) (HB.out.free 31) HB.out.chn).mono ?_
  rintro e w' ⟨rfl, rfl⟩
  go_wp2
  refine leaves_cons (f := 19) (args := #[.pointer (some ⟨b, 21, none⟩)]) (by simp) (by simp [go_sem]) ?_
  refine (unlock_deferred Try.muLib ⟨b, 21, none⟩ .returning _ ?_ ?_).mono ?_
  · exact HS.out.cell 21
  · exact HS.out.free 21
  rintro e u' w'' ⟨rfl, rfl, rfl⟩
  exact ⟨_, results_none rfl _ _ _, rfl, rfl⟩

end Go.Proofs.Qxb6616399a
