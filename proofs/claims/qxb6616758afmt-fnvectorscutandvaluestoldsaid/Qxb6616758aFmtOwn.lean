import Derived.Test.Qxb6616758aFmtHdr
/- bytes.Buffer.Write with the source in a row r of bytes that the call itself made (a bufio.Writer's buffer): r stays as it stood, and the buffer's row is another block. -/
namespace Go.Proofs.Qxb6616758aFmt
open Go.RowKit Go.Stop

theorem tg_room (b : Nat) (ao : Option Addr) (l cap n : Nat) (w : World) (c0 : w.cell? ⟨b, 0, none⟩ = some (.slice ao l cap)) (f0 : w.frozen? ⟨b, 0, none⟩ = false) (hlc : l ≤ cap) (hcap : cap ≤ maxLen) (hn : n ≤ cap - l) :
    Calls Tryf.prog 76 #[.pointer (some ⟨b, 0, none⟩), .int .i64 n] w fun e w' => e = .returned (.tuple #[.int .i64 l, .bool true]) ∧ w' = w.setCell ⟨b, 0, none⟩ (.slice ao (l + n) cap) :=
  Any.Buffer_tryGrow_room (ρ := Tryf.laysM180_ren) { Tryf.laysM180 with } b ao l cap n w c0 f0 hlc hcap hn

theorem tg_none (b : Nat) (ao : Option Addr) (l cap n : Nat) (w : World) (c0 : w.cell? ⟨b, 0, none⟩ = some (.slice ao l cap)) (hlc : l ≤ cap) (hcap : cap ≤ maxLen) (hn : cap - l < n) :
    Calls Tryf.prog 76 #[.pointer (some ⟨b, 0, none⟩), .int .i64 n] w fun e w' => e = .returned (.tuple #[.int .i64 0, .bool false]) ∧ w' = w :=
  Any.Buffer_tryGrow_none (ρ := Tryf.laysM180_ren) { Tryf.laysM180 with } b ao l cap n w c0 hlc hcap hn

theorem gs_nil (n : Nat) (w : World) (hn : 1 ≤ n) (hlim : n ≤ 140737488355328) :
    Calls Tryf.prog 79 #[.slice none 0 0, .int .i64 n] w fun e w' => ∃ cap2 cells, e = .returned (.slice (some ⟨w.heap.size, 0, none⟩) 0 cap2) ∧ w'.heap[w.heap.size]? = some (.cells cells 5 (0, 0)) ∧ cells.size = cap2 ∧ n ≤ cap2 ∧ cap2 ≤ maxLen ∧ Below w.heap.size w w' :=
  Any.bytes_growSlice_nil (ρ := Tryf.laysM180_ren) { Tryf.laysM180 with } n w hn hlim

theorem b_len (B b : Nat) (bs : List Value) (w : World) (h : Lib.IsBuffer 41 5 B b bs w) :
    Calls Tryf.prog 78 #[.pointer (some ⟨b, 0, none⟩)] w fun e w' => e = .returned (.int .i64 bs.length) ∧ ∃ n, w' = w.drewN n :=
  Any.Buffer_Len (ρ := Tryf.laysM180_ren) { Tryf.laysM180 with } B b bs w h

theorem g_own (B b n : Nat) (bs : List Value) (w : World) (h : Lib.IsBuffer 41 5 B b bs w) (hnr : Lib.NoRoom b n w) (hBw : B ≤ w.heap.size) (h1 : ∀ v ∈ bs, v.oneCell' = true) (hlim : bs.length + n ≤ 140737488355328) :
    Calls Tryf.prog 77 #[.pointer (some ⟨b, 0, none⟩), .int .i64 n] w fun e w' => e = .returned (.int .i64 bs.length) ∧ ∃ xs, xs.length = n ∧ Lib.IsBuffer 41 5 B b (bs ++ xs) w' ∧ Below B w w' ∧ Lib.OthersKept 5 (some b) w w' ∧ w.grownBy w' (some b) :=
  Any.Buffer_grow_own (ρ := Tryf.laysM180_ren) { Tryf.laysM180 with } B b n bs w h hnr hBw h1 hlim

/-- The row of the buffer in block b is not r. -/
def Off (b r : Nat) (w : World) : Prop := ∀ g l c x y T fz, w.heap[b]? = some (.cells #[.slice (some g) l c, x, y] T fz) → g.block ≠ r

/-- The buffer behind 'grow': its row, with room for n more bytes; nothing old has turned but block b. -/
def Grown (B b r n : Nat) (bs : List Value) (w w' : World) : Prop :=
  ∃ g cap cur lr, w'.heap[b]? = some (.cells #[.slice (some ⟨g, 0, none⟩) (bs.length + n) cap, .int .i64 0, .int .i8 lr] 41 (0, 0)) ∧ B ≤ g ∧ w'.heap[g]? = some (.cells cur 5 (0, 0)) ∧ bs.length + n ≤ cap ∧ cap ≤ maxLen ∧ cur.size = cap ∧
    cur.toList.take bs.length = bs ∧ g ≠ b ∧ g ≠ r ∧ Below B w w' ∧ Lib.OthersKept 5 (some b) w w' ∧ w.grownBy w' (some b)

set_option maxHeartbeats 1600000 in
set_option maxRecDepth 100000 in
/-- grow, 'buf' nil, n above 64. -/
theorem g_nil (B b n : Nat) (lr : Int) (w : World) (hB : B ≤ b) (hBw : B ≤ w.heap.size) (hbk : w.heap[b]? = some (.cells #[.slice none 0 0, .int .i64 0, .int .i8 lr] 41 (0, 0))) (h64 : 64 < n) (hlim : n ≤ 140737488355328) :
    Calls Tryf.prog 77 #[.pointer (some ⟨b, 0, none⟩), .int .i64 n] w fun e w' => e = .returned (.int .i64 0) ∧ ∃ cap cur, w'.heap[b]? = some (.cells #[.slice (some ⟨w.heap.size, 0, none⟩) n cap, .int .i64 0, .int .i8 lr] 41 (0, 0)) ∧
      w'.heap[w.heap.size]? = some (.cells cur 5 (0, 0)) ∧ n ≤ cap ∧ cap ≤ maxLen ∧ cur.size = cap ∧ Below B w w' ∧ Lib.OthersKept 5 (some b) w w' ∧ w.grownBy w' (some b) := by
  have mixed : Tryf.prog.follows Departure.mixedOrders = true := by kernel_rfl
  have hn : 1 ≤ n := by omega
  have hIs : Lib.IsBuffer 41 5 B b [] w := ⟨hB, _, _, hbk, World.ownsRow_nil _ _ _ _, by simp [Value.ownBlock]⟩
  have hnil : ∀ W, (binOp .eql 24 (.slice none 0 0) (.slice none 0 0)).run Tryf.prog W = .ok (.bool true) W := fun W => Lib.run_eql_slice_nil_nil W _ _ Tryf.underlying24
  go_enter Tryf.func77, Tryf.ntmps77
  go_wp2_with fail
  refine (b_len B b [] _ hIs).mono ?_
  rintro e W0 ⟨rfl, k, hW0⟩
  have hbk0 : W0.heap[b]? = some (.cells #[.slice none 0 0, .int .i64 0, .int .i8 lr] 41 (0, 0)) := by rw [hW0]; exact hbk
  have c0 : W0.cell? ⟨b, 0, none⟩ = some (.slice none 0 0) := by rw [Lib.cell_of_heap hbk0]; rfl
  have c1 : W0.cell? ⟨b, 1, none⟩ = some (.int .i64 0) := by rw [Lib.cell_of_heap hbk0]; rfl
  have f0 : W0.frozen? ⟨b, 0, none⟩ = false := Lib.frozen_of_heap hbk0 0
  have f1 : W0.frozen? ⟨b, 1, none⟩ = false := Lib.frozen_of_heap hbk0 1
  have HW0 : Hid (W0 = w.drewN k) := hW0
  clear hW0 hIs
  go_wp2_with fail
  refine (tg_none b _ 0 0 n _ c0 (Nat.le_refl _) (Nat.zero_le _) (by omega)).mono ?_
  rintro e w' ⟨rfl, rfl⟩
  have hbW := Lib.lt_of_heap hbk0
  have hwn : IntKind.i64.wrap (n : Int) = n := by rw [IntKind.wrap_i64]; omega
  go_wp2_with fail
  go_region_with_o (
      go_at_call 79
      refine (gs_nil n _ hn hlim).mono ?_
      rintro e w2 ⟨cap2, cells, rfl, hN, hcsz, hcap2, hcm2, hbel⟩
      have hbk2 : w2.heap[b]? = some (.cells #[.slice none 0 0, .int .i64 0, .int .i8 lr] 41 (0, 0)) := (hbel.block b hbW).trans hbk0
      have d0 : w2.cell? ⟨b, 0, none⟩ = some (.slice none 0 0) := by rw [Lib.cell_of_heap hbk2]; rfl
      have d1 : w2.cell? ⟨b, 1, none⟩ = some (.int .i64 0) := by rw [Lib.cell_of_heap hbk2]; rfl
      have e0 : w2.frozen? ⟨b, 0, none⟩ = false := Lib.frozen_of_heap hbk2 0
      have e1 : w2.frozen? ⟨b, 1, none⟩ = false := Lib.frozen_of_heap hbk2 1)
  all_goals (
    go_wp2_with fail
    go_ret
    have hsz0 : w'.heap.size = w.heap.size := by rw [HW0.out]; rfl
    have hb0 : Below B w w'.drew := by rw [HW0.out]; exact ⟨rfl, rfl, rfl, Nat.le_refl _, fun _ _ => rfl⟩
    have hk2 : Lib.OthersKept 5 (some b) w w2 := Lib.OthersKept.below (w := w'.drew) (by rw [HW0.out]; exact fun _ _ h _ _ => h) hbel
    have hg2 : w.grownBy w2 (some b) := Lib.grownBy_below (w := w'.drew) (by rw [HW0.out]; exact ⟨rfl, rfl, rfl, Nat.le_refl _, fun _ _ _ => rfl⟩) hbel
    have hB2 : Below B w w2 := hb0.trans (hbel.mono (by show B ≤ w'.heap.size; omega))
    have hN' : w2.heap[w.heap.size]? = some (.cells cells 5 (0, 0)) := by rw [← hsz0]; exact hN
    have hne : w.heap.size ≠ b := by omega
    refine ⟨rfl, cap2, cells, ?_, ?_, hcap2, hcm2, hcsz, ((hB2.setCell (p := ⟨b, 0, none⟩) hB _).setCell (p := ⟨b, 1, none⟩) hB _).setCell (p := ⟨b, 0, none⟩) hB _, ((hk2.setCell ⟨b, 0, none⟩ rfl _).setCell ⟨b, 1, none⟩ rfl _).setCell ⟨b, 0, none⟩ rfl _, Lib.grownBy_setB (Lib.grownBy_setB (Lib.grownBy_setB hg2 0 _) 1 _) 0 _⟩
    · rw [← hsz0]
      exact heap_setCell_same _ b 0 _ 41 _ (heap_setCell_same _ b 1 _ 41 _ (heap_setCell_same _ b 0 _ 41 _ hbk2))
    · rw [Below.heap_setCell _ _ _ _ hne, Below.heap_setCell _ _ _ _ hne, Below.heap_setCell _ _ _ _ hne]
      exact hN')

end Go.Proofs.Qxb6616758aFmt
