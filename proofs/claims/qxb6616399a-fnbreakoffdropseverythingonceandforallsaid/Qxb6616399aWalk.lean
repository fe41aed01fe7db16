import Derived.Test.Qxb6616399aMain
namespace Go.Proofs.Qxb6616399a
open Go.RowKit Go.Conc

/-- A connection that 'breakOff' has reset. -/
def ResetAt (w : World) (b c : Nat) (n0 n1 : ByteArray) (cut : Bool) : Prop :=
  ConnAt w b c 0 n0 n1 (.slice none 0 0) (.int .i64 0) (.bool false) (.slice none 0 0) (.int .i64 0) (.bool false) cut true

/-- What one call of 'breakOff' on the connection in block b turns: b, its channel's block c, and what is new. -/
structure Off (w w' : World) (b c : Nat) : Prop where
  os : w'.os = w.os
  tape : w'.tape = w.tape
  output : w'.output = w.output
  size : w.heap.size < w'.heap.size
  other : ∀ k, k ≠ b → k ≠ c → k < w.heap.size → w'.heap[k]? = w.heap[k]?

theorem Off.below {B : Nat} {u w w' : World} {b c : Nat} (h : Off w w' b c) (hb : Below B u w) (h1 : B ≤ b) (h2 : B ≤ c) (h3 : B ≤ w.heap.size) : Below B u w' :=
  hb.trans ⟨h.os, h.tape, h.output, Nat.le_of_lt h.size, fun k hk => h.other k (by omega) (by omega) (by omega)⟩

theorem ConnAt.lt {w : World} {b c : Nat} {m : Int} {n0 n1 : ByteArray} {v0 v1 v2 v3 v4 v5 : Value} {cut br : Bool} (h : ConnAt w b c m n0 n1 v0 v1 v2 v3 v4 v5 cut br) : b < w.heap.size ∧ c < w.heap.size :=
  ⟨lt_of_block h.blk, lt_of_block h.chn⟩

theorem ConnAt.off {w w' : World} {b c b' c' : Nat} {m : Int} {n0 n1 : ByteArray} {v0 v1 v2 v3 v4 v5 : Value} {cut br : Bool} (h : ConnAt w b c m n0 n1 v0 v1 v2 v3 v4 v5 cut br) (ho : Off w w' b' c')
    (h1 : b ≠ b') (h2 : b ≠ c') (h3 : c ≠ b') (h4 : c ≠ c') : ConnAt w' b c m n0 n1 v0 v1 v2 v3 v4 v5 cut br :=
  ⟨(ho.other b h1 h2 h.lt.1).trans h.blk, (ho.other c h3 h4 h.lt.2).trans h.chn⟩

theorem ConnAt.below {w w' : World} {b c : Nat} {m : Int} {n0 n1 : ByteArray} {v0 v1 v2 v3 v4 v5 : Value} {cut br : Bool} (h : ConnAt w b c m n0 n1 v0 v1 v2 v3 v4 v5 cut br) (ho : Below w.heap.size w w') :
    ConnAt w' b c m n0 n1 v0 v1 v2 v3 v4 v5 cut br :=
  ⟨(ho.block b h.lt.1).trans h.blk, (ho.block c h.lt.2).trans h.chn⟩

theorem ConnAt.draws {w : World} {b c : Nat} {m : Int} {n0 n1 : ByteArray} {v0 v1 v2 v3 v4 v5 : Value} {cut br : Bool} (h : ConnAt w b c m n0 n1 v0 v1 v2 v3 v4 v5 cut br) (n : Nat) :
    ConnAt (w.drewN n) b c m n0 n1 v0 v1 v2 v3 v4 v5 cut br := ⟨h.blk, h.chn⟩

theorem closeAt_below (w : World) (c : Nat) : Below 0 w (closeAt w c) := ⟨rfl, rfl, rfl, by rw [closeAt_size]; exact Nat.le_refl _, fun k hk => absurd hk (Nat.not_lt_zero k)⟩
theorem brkW_below (w : World) (b : Nat) : Below 0 w (brkW w b) :=
  ((((((((Below.refl 0 w).setCell (Nat.zero_le _) _).setCell (Nat.zero_le _) _).setCell (Nat.zero_le _) _).setCell (Nat.zero_le _) _).setCell (Nat.zero_le _) _).setCell (Nat.zero_le _) _).setCell (Nat.zero_le _) _).setCell (Nat.zero_le _) _
theorem offW_below (w : World) (b c : Nat) : Below 0 w (offW w b c) :=
  ((((brkW_below w b).trans (closeAt_below _ c)).setCell (Nat.zero_le _) _).alloc (Nat.zero_le _) _).setCell (Nat.zero_le _) _

theorem offW_off {w : World} (b c : Nat) : Off w (offW w b c) b c := by
  have hb := offW_below w b c
  refine ⟨hb.os, hb.tape, hb.output, ?_, fun k h1 h2 h3 => ?_⟩
  · have e : (offW w b c).heap.size = w.heap.size + 1 := by
      unfold offW sigW
      simp [closeAt_size, brkW_size]
    omega
  · unfold offW
    rw [heap_setCell_other _ _ _ _ h1, sigW_other _ _ _ _ h1 h2 (by rw [brkW_size]; exact h3), brkW_other _ _ _ h1]

theorem offW_reset {w : World} {b c : Nat} {n0 n1 : ByteArray} {v0 v1 v2 v3 v4 v5 : Value} {cut br : Bool} (h : ConnAt w b c 0 n0 n1 v0 v1 v2 v3 v4 v5 cut br) : ResetAt (offW w b c) b w.heap.size n0 n1 cut := by
  have hS := unlW_conn (sigW_conn (brkW_conn h))
  rw [brkW_size] at hS
  exact hS

set_option maxHeartbeats 400000 in
theorem off_any (b c : Nat) (n0 n1 : ByteArray) (v0 v1 v2 v3 v4 v5 : Value) (cut br : Bool) (w : World) (h : ConnAt w b c 0 n0 n1 v0 v1 v2 v3 v4 v5 cut br) :
    Calls Try.prog 10 #[.pointer (some ⟨b, 0, none⟩)] w fun e w' => e = .returned (.tuple #[]) ∧ ResetAt w' b w.heap.size n0 n1 cut ∧ Off w w' b c := by
  have H1 : Hid _ := offW_reset h
  have H2 : Hid _ := offW_off (w := w) b c
  have H : Hid _ := h
  clear h
  go_enter Try.func10, Try.ntmps10
  go_wp2_with fail
  refine (breakOff_any b c n0 n1 v0 v1 v2 v3 v4 v5 cut br w H.out).mono ?_
  rintro e w' ⟨rfl, rfl⟩
  go_wp2
  go_end0
  exact ⟨rfl, H1.out, H2.out⟩

theorem fresh_any (n0 n1 : ByteArray) (a0 a1 : Option Addr) (l0 c0 l1 c1 : Nat) (o0 o1 : Int) (s0 s1 cut : Bool) (w : World) :
    Calls Try.prog 9 #[.string n0, .string n1, .slice a0 l0 c0, .int .i64 o0, .bool s0, .slice a1 l1 c1, .int .i64 o1, .bool s1, .bool cut] w fun e w' =>
      e = .returned (.pointer (some ⟨w.heap.size + 1, 0, none⟩)) ∧ ConnAt w' (w.heap.size + 1) w.heap.size 0 n0 n1 (.slice a0 l0 c0) (.int .i64 o0) (.bool s0) (.slice a1 l1 c1) (.int .i64 o1) (.bool s1) cut false ∧ Below w.heap.size w w' := by
  refine (new_any n0 n1 a0 a1 l0 c0 l1 c1 o0 o1 s0 s1 cut w).mono ?_
  rintro e w' ⟨rfl, rfl⟩
  refine ⟨rfl, ⟨?_, ?_⟩, ((Below.refl _ _).alloc (Nat.le_refl _) _).alloc (by simp) _⟩
  · have := heap_alloc_new (w.alloc (.chan 0 #[] false 0 0 false)) (.cells (connCells 0 n0 n1 (.slice a0 l0 c0) (.int .i64 o0) (.bool s0) (.slice a1 l1 c1) (.int .i64 o1) (.bool s1) cut false w.heap.size) 54)
    simpa using this
  · rw [Below.heap_alloc _ _ _ (by simp)]
    exact heap_alloc_new w _

set_option maxHeartbeats 800000 in
theorem walk_main (a0 a1 : ByteArray) (a2 : Option Addr) (len2 cap2 : Nat) (z2 : List Int) (a3 : Int) (a4 : Bool) (a5 : Option Addr) (len5 cap5 : Nat) (z5 : List Int) (a6 : Int) (a7 : Bool) (a8 : Bool) (w : World)
    (s0 : a0.size ≤ 262144) (s1 : a1.size ≤ 262144) (s2 : len2 ≤ 262144) (s5 : len5 ≤ 262144) (o1 : 0 ≤ a3) (o2 : a3 ≤ len2) (o3 : 0 ≤ a6) (o4 : a6 ≤ len5)
    (r2 : ReadRow w a2 len2 cap2 z2) (r5 : ReadRow w a5 len5 cap5 z5) :
    Calls Try.prog 4 #[.string a0, .string a1, .slice a2 len2 cap2, .int .i64 a3, .bool a4, .slice a5 len5 cap5, .int .i64 a6, .bool a7, .bool a8] w fun e w' => e = .returned (.bool true) ∧ Below w.heap.size w w' := by
  go_enter Try.func4, Try.ntmps4
  go_wp2_with fail
  refine (bytes_any a0 a1 a2 len2 cap2 a3 a4 a5 len5 cap5 a6 a7 a8 _).mono ?_
  rintro e w' ⟨t, rfl, rfl⟩
  cases t
  · go_wp2_with fail
    go_ret
    exact ⟨rfl, Below.refl _ _⟩
  go_wp2_with fail
  refine (clone_any a2 len2 cap2 z2 _ r2 s2).mono ?_
  rintro e w1 ⟨a2', cap2', z2', rfl, r2', b1⟩
  go_wp2_with fail
  refine (clone_any a5 len5 cap5 z5 _ (r5.below b1) s5).mono ?_
  rintro e w2 ⟨a5', cap5', z5', rfl, r5', b2⟩
  have r2'' := r2'.below b2
  clear r2 r5 r2'
  go_wp2_with fail
  refine (fresh_any a0 a1 a2' a5' len2 cap2' len5 cap5' a3 a6 a4 a7 a8 _).mono ?_
  rintro e w3 ⟨rfl, k1, b3⟩
  go_wp2_with fail
  refine (clone_any a2' len2 cap2' z2' _ (r2''.below b3) s2).mono ?_
  rintro e w4 ⟨a2q, cap2q, z2q, rfl, _, b4⟩
  have b34 : Below w2.heap.size w2 w4 := b3.trans (b4.mono b3.size)
  have k1' := k1.below b4
  clear k1 r2''
  go_wp2_with fail
  refine (clone_any a5' len5 cap5' z5' _ (r5'.below b34) s5).mono ?_
  rintro e w5 ⟨a5q, cap5q, z5q, rfl, _, b5⟩
  have k1 := k1'.below b5
  clear k1' r5'
  go_wp2_with fail
  refine (fresh_any a0 a1 a2q a5q len2 cap2q len5 cap5q a3 a6 a4 a7 a8 _).mono ?_
  rintro e w6 ⟨rfl, k2, b6⟩
  have l1 := k1.lt
  have k1' := k1.below b6
  clear k1
  go_wp2_with fail
  refine (off_any _ _ _ _ _ _ _ _ _ _ _ _ _ k1').mono ?_
  rintro e w7 ⟨rfl, x7, f7⟩
  have k2' := k2.off f7 (by omega) (by omega) (by omega) (by omega)
  have l2 := k2.lt
  clear k2
  go_wp2_with fail
  refine (off_any _ _ _ _ _ _ _ _ _ _ _ _ _ k2').mono ?_
  rintro e w8 ⟨rfl, y8, f8⟩
  go_wp2_with fail
  refine (reset_any _ _ _ _ _ _ _ y8).mono ?_
  rintro e w9 ⟨rfl, n9, rfl⟩
  go_wp2_with fail
  refine (off_any _ _ _ _ _ _ _ _ _ _ _ _ _ (ConnAt.draws y8 n9)).mono ?_
  rintro e w10 ⟨rfl, y10, f10⟩
  have l7 := f7.size
  have l8 := f8.size
  have x8 := ConnAt.off x7 f8 (by omega) (by omega) (by omega) (by omega)
  have x10 := ConnAt.off (ConnAt.draws x8 n9) f10 (by omega) (by omega) (by omega) (by omega)
  go_wp2_with fail
  refine (reset_any _ _ _ _ _ _ _ x10).mono ?_
  rintro e w11 ⟨rfl, n11, rfl⟩
  go_wp2_with fail
  refine (reset_any _ _ _ _ _ _ _ (ConnAt.draws y10 n11)).mono ?_
  rintro e w12 ⟨rfl, n12, rfl⟩
  go_wp2_with fail
  go_ret
  have B5 : Below w'.heap.size w' w5 := b1.trans ((b2.trans ((b3.trans ((b4.trans (b5.mono b4.size)).mono b3.size)).mono b2.size)).mono b1.size)
  have B6 : Below w'.heap.size w' w6 := B5.trans (b6.mono B5.size)
  have e2 : w'.heap.size ≤ w2.heap.size := Nat.le_trans b1.size b2.size
  have B7 := f7.below B6 (by omega) (by omega) (by omega)
  have B8 := f8.below B7 (by omega) (by omega) (by omega)
  have B9 : Below w'.heap.size w' (w8.drewN n9) := ⟨B8.os, B8.tape, B8.output, B8.size, B8.block⟩
  have B10 := f10.below B9 (by omega) (by omega) (by simp; omega)
  exact ⟨rfl, ⟨B10.os, B10.tape, B10.output, B10.size, B10.block⟩⟩

/-- THE WALK: whatever the arguments: true; nothing that was there has turned. -/
theorem walk (a0 : ByteArray) (a1 : ByteArray) (a2 : Option Addr) (len2 cap2 : Nat) (z2 : List Int) (a3 : Int) (a4 : Bool) (a5 : Option Addr) (len5 cap5 : Nat) (z5 : List Int) (a6 : Int) (a7 : Bool) (a8 : Bool) (w : World) (w2 : IsRow .u8 w a2 len2 cap2 z2) (w5 : IsRow .u8 w a5 len5 cap5 z5) :
    Calls Try.prog 4 #[.string a0, .string a1, .slice a2 len2 cap2, .int .i64 a3, .bool a4, .slice a5 len5 cap5, .int .i64 a6, .bool a7, .bool a8] w fun e w' => e = .returned (.bool true) ∧ Below w.heap.size w w' := by
  by_cases hA : a0.size ≤ 262144 ∧ a1.size ≤ 262144 ∧ len2 ≤ 262144 ∧ len5 ≤ 262144
  · obtain ⟨s0, s1, s2, s5⟩ := hA
    by_cases hB : 0 ≤ a3 ∧ a3 ≤ len2 ∧ 0 ≤ a6 ∧ a6 ≤ len5
    · obtain ⟨o1, o2, o3, o4⟩ := hB
      exact walk_main a0 a1 a2 len2 cap2 z2 a3 a4 a5 len5 cap5 z5 a6 a7 a8 w s0 s1 s2 s5 o1 o2 o3 o4 w2.read w5.read
    · exact walk_off a0 a1 a2 len2 cap2 a3 a4 a5 len5 cap5 a6 a7 a8 w s0 s1 s2 s5 (by omega)
  · exact walk_big a0 a1 a2 len2 cap2 a3 a4 a5 len5 cap5 a6 a7 a8 w (by omega)

end Go.Proofs.Qxb6616399a
