import Derived.Test.Qxb6616757aBase
namespace Go.Proofs.Qxb6616757a
open Go.RowKit

set_option maxHeartbeats 800000 in
theorem bytes_any (a0 a1 a2 : Option Addr) (l0 c0 l1 c1 l2 c2 : Nat) (w : World) :
    Calls Try.prog 4 #[.slice a0 l0 c0, .slice a1 l1 c1, .slice a2 l2 c2] w fun e w' => ∃ t, e = .returned (.bool t) ∧ w' = w := by
  go_enter Try.func4, Try.ntmps4
  go_wp2
  all_goals (go_ret; exact ⟨_, rfl, rfl⟩)

set_option maxHeartbeats 800000 in
theorem walk_big (a0 a1 a2 : Option Addr) (l0 c0 l1 c1 l2 c2 : Nat) (w : World)
    (h : 1048576 < l0 ∨ (l0 ≤ 1048576 ∧ 1048576 < l1) ∨ (l0 ≤ 1048576 ∧ l1 ≤ 1048576 ∧ 1048576 < l2)) :
    Calls Try.prog 3 #[.slice a0 l0 c0, .slice a1 l1 c1, .slice a2 l2 c2] w fun e w' => e = .returned (.bool true) ∧ Below w.heap.size w w' := by
  rcases h with h1 | ⟨h1, h2⟩ | ⟨h1, h2, h3⟩
  all_goals
    go_enter Try.func3, Try.ntmps3
    go_wp2_with fail
    refine (bytes_any a0 a1 a2 l0 c0 l1 c1 l2 c2 _).mono ?_
    rintro e w' ⟨t, rfl, rfl⟩
    cases t <;> go_wp2_with fail
    all_goals (go_ret; exact ⟨rfl, Below.refl _ _⟩)

/-- The row behind 'zzc := make([]byte, len(x)); copy(zzc, x)'. -/
theorem copied {w' : World} {g len : Nat} {cur : List Value} {xs : List Int} (hl : cur.length = len) (hx : xs.length = len)
    (hg : w'.heap[g]? = some (.cells (splice cur 0 (xs.map (Value.int .u8))).toArray 5 (0, 0))) : Holds w' (some ⟨g, 0, none⟩) len xs := by
  have e : splice cur 0 (xs.map (Value.int .u8)) = xs.map (Value.int .u8) := by
    unfold splice
    rw [List.take_zero, List.nil_append, List.drop_eq_nil_of_le (by simp; omega), List.append_nil]
  rw [e] at hg
  refine ⟨hx, by simp, fun x hx j v hv => ?_⟩
  obtain rfl : (⟨g, 0, none⟩ : Addr) = x := by simpa using hx
  rw [add_at, Nat.zero_add, cell_of_row _ _ _ _ _ _ hg]
  simp [hv]

theorem row_of_owns {w : World} {base g n : Nat} {xs : List Value} (h : w.ownsRow base 5 1 (.slice (some ⟨g, 0, none⟩) n n) n xs) : ∃ cur : List Value, cur.length = n ∧ w.heap[g]? = some (.cells cur.toArray 5 (0, 0)) := by
  rcases h.2 with ⟨h', _⟩ | ⟨g', cap', cur, h', _, hg, _, _, hs, _⟩
  · simp at h'
  · simp only [Value.slice.injEq, Option.some.injEq, Addr.mk.injEq, and_true, true_and] at h'
    obtain ⟨rfl, rfl⟩ := h'
    exact ⟨cur.toList, by simpa using hs, by simpa using hg⟩

theorem copy_run {w0 w1 : World} {B g len c : Nat} {cur : List Value} {k : Addr} {xs : List Int} (hl : cur.length = len) (hg : w1.heap[g]? = some (.cells cur.toArray 5 (0, 0))) (h : Holds w1 (some k) len xs) (hb : Below B w0 w1) (hB : B ≤ g) :
    ∃ w2, (∀ ty, (Builtin.copy_ #[22, 22] ty #[.slice (some ⟨g, 0, none⟩) len len, .slice (some k) len c]).run Try.prog w1 = .ok (.int .i64 (len : Int)) w2) ∧ Holds w2 (some ⟨g, 0, none⟩) len xs ∧ Below B w0 w2 := by
  by_cases h0 : len = 0
  · subst h0
    obtain rfl : xs = [] := List.eq_nil_of_length_eq_zero h.1
    exact ⟨w1, fun ty => run_copy_none (P := Try.prog) w1 22 22 ty 5 _ _ 0 0 0 c Try.underlying22 Try.size5 rfl, ⟨rfl, by simp, fun x _ j v hv => by simp at hv⟩, hb⟩
  · have hcs : (xs.map (Value.int .u8)).length = Nat.min len len := by simp [h.1]
    have hsrc : ∀ j v, (xs.map (Value.int .u8))[j]? = some v → w1.cell? (k.add j) = some v := fun j u hu => by
      rw [List.getElem?_map] at hu
      obtain ⟨v, hv, rfl⟩ := Option.map_eq_some_iff.1 hu
      exact h.2.2 k rfl j v hv
    refine ⟨w1.setRow g (splice cur 0 (xs.map (Value.int .u8))).toArray, fun ty => ?_, copied (cur := cur) hl h.1 (setRow_heap w1 g _ _ 5 _ hg), below_setRow hb hB _⟩
    · have e := run_copy_row (P := Try.prog) w1 22 22 ty 5 g 0 len len k len c cur.toArray 5 (xs.map (Value.int .u8)) Try.underlying22 Try.size5 hg hcs hsrc (by simp [hl, h.1]) (ints_oneCell _ _)
      rw [e]
      simp [splice, goInt, h.1]

/-- 'zzc := make([]byte, len(x)); copy(zzc, x)', both runs. -/
theorem clone_run {w : World} {len c : Nat} {k : Addr} {xs : List Int} (h : Holds w (some k) len xs) (hl : len ≤ 1048576) :
    ∃ w1 w2, (Instr.makeSlice 22 (.int .i64 (len : Int)) (.int .i64 (len : Int))).run Try.prog w = .ok (.slice (some ⟨w.heap.size, 0, none⟩) len len) w1 ∧
      (∀ ty, (Builtin.copy_ #[22, 22] ty #[.slice (some ⟨w.heap.size, 0, none⟩) len len, .slice (some k) len c]).run Try.prog w1 = .ok (.int .i64 (len : Int)) w2) ∧ Holds w2 (some ⟨w.heap.size, 0, none⟩) len xs ∧ Below w.heap.size w w2 := by
  obtain ⟨i0, hi, hz0, hz1, hz2⟩ := info_parts Try.info5
  obtain ⟨w1, hrun, hown, hgrow⟩ := run_make_full (P := Try.prog) w w.heap.size 22 5 i0 (.int .u8 0) 1 Try.underlying22 hi hz0 hz1 .i64 .i64 len (by rw [hz2]; omega) (by unfold maxLen; omega) (Nat.le_refl _)
  have hb1 : Below w.heap.size w w1 := (Below.refl _ _).grown hgrow (Nat.le_refl _) (fun k hk => by cases hk)
  obtain ⟨cur, hcl, hcg⟩ := row_of_owns hown
  obtain ⟨w2, hcp, k2, hb2⟩ := copy_run (c := c) hcl hcg (h.below hb1) hb1 (Nat.le_refl _)
  exact ⟨w1, w2, hrun, hcp, k2, hb2⟩

/-- The literal '[]byte{0}'. -/
theorem lit_holds (w : World) : Holds (w.alloc (.cells #[.int .u8 0] 5)) (some ⟨w.heap.size, 0, none⟩) 1 [0] := by
  refine ⟨rfl, by simp, fun x hx j v hv => ?_⟩
  obtain rfl : (⟨w.heap.size, 0, none⟩ : Addr) = x := by simpa using hx
  have hj : j = 0 := by
    have := (List.getElem?_eq_some_iff.1 hv).1
    simpa using this
  subst hj
  obtain rfl : (0 : Int) = v := by simpa using hv
  rw [add_at, Nat.zero_add, cell_of_row _ _ _ _ _ _ (heap_alloc_new w _)]
  rfl

set_option maxHeartbeats 400000 in
theorem walk_ss (a0 : Option Addr) (k : Addr) (l1 c1 : Nat) (h : Addr) (l2 c2 : Nat) (l0 c0 : Nat) (ps xs ys : List Int) (w : World) (s0 : l0 ≤ 1048576) (s1 : l1 ≤ 1048576) (s2 : l2 ≤ 1048576)
    (h0 : Holds w a0 l0 ps) (h1 : Holds w (some k) l1 xs) (h2 : Holds w (some h) l2 ys) (hc0 : a0 = none → c0 = 0) :
    Calls Try.prog 3 #[.slice a0 l0 c0, .slice (some k) l1 c1, .slice (some h) l2 c2] w fun e w' => e = .returned (.bool true) ∧ Below w.heap.size w w' := by
  have q1 : ∀ (w : World) (x : Addr) (n c : Nat), (binOp .neq 22 (.slice (some x) n c) (.slice none 0 0)).run Try.prog w = .ok (.bool true) w := fun w x n c => run_neq_slice_nil_any w _ _ (some x) n c 0 0 Try.underlying22
  have q2 : ∀ (w : World) (x : Addr) (n c : Nat), (binOp .eql 22 (.slice (some x) n c) (.slice none 0 0)).run Try.prog w = .ok (.bool false) w := fun w x n c => Lib.run_eql_slice_nil w _ _ (some x) n c 0 0 Try.underlying22
  have q3 : ∀ (w : World), (binOp .neq 22 (.slice none 0 0) (.slice none 0 0)).run Try.prog w = .ok (.bool false) w := fun w => run_neq_slice_nil_any w _ _ none 0 0 0 0 Try.underlying22
  have q4 : ∀ (w : World), (binOp .eql 22 (.slice none 0 0) (.slice none 0 0)).run Try.prog w = .ok (.bool true) w := fun w => Lib.run_eql_slice_nil w _ _ none 0 0 0 0 Try.underlying22
  have N0 : ∀ W : World, Holds W none 0 [] := fun W => ⟨rfl, fun _ => rfl, fun x hx => by simp at hx⟩
  obtain ⟨w1, w2, hm1, hp1, k1, b1⟩ := clone_run (c := c1) h1 s1
  obtain ⟨w3, w4, hm2, hp2, k2, b2⟩ := clone_run (c := c2) (h2.below b1) s2
  have B4 : Below w.heap.size w w4 := b1.trans (b2.mono b1.size)
  have k4 := k1.below b2
  have y4 := k2
  clear h1 h2 k1 k2
  have p4 := h0.below B4
  clear h0
  go_enter Try.func3, Try.ntmps3
  go_wp2_with fail
  refine (bytes_any a0 (some k) (some h) l0 c0 l1 c1 l2 c2 _).mono ?_
  rintro e w' ⟨t, rfl, hw⟩
  subst hw
  cases t
  · go_wp2_with fail
    go_ret
    exact ⟨rfl, Below.refl _ _⟩
  go_wp2_with fail
  have bz : Below w4.heap.size w4 (w4.alloc (.cells #[.int .u8 0] 5)) := (Below.refl _ _).alloc (Nat.le_refl _) _
  have z5 := lit_holds w4
  refine (join_any (xs := xs) l1 1 _ (k4.below bz) z5 (by omega) (by omega) (by simp) (by simp)).mono ?_
  rintro e w5 ⟨g5, n5, rfl, hn5, j5, b5⟩
  clear hn5
  have B5 : Below w4.heap.size w4 w5 := bz.trans (b5.mono bz.size)
  have p5 := p4.below B5
  have k5 := k4.below B5
  have y5 := y4.below B5
  clear p4 k4 y4 z5
  go_wp2_with fail
  refine (below_any (xs := xs) l1 n5 _ k5 j5).mono ?_
  rintro e w6 ⟨rfl, rfl⟩
  rw [below_succ]
  go_wp2_with fail
  refine (below_any n5 l1 _ j5 k5).mono ?_
  rintro e w7 ⟨rfl, rfl⟩
  rw [below_pred]
  go_wp2_with fail
  refine (below_any l1 l1 _ k5 k5).mono ?_
  rintro e w8 ⟨rfl, rfl⟩
  rw [below_self]
  go_wp2_with fail
  refine (join_any (ys := xs) c0 l1 _ p5 k5 (by omega) (by omega) hc0 (by simp)).mono ?_
  rintro e w9 ⟨g9, n9, rfl, hn9, j9, b9⟩
  clear hn9
  go_wp2_with fail
  have p9 := p5.below b9
  have y9 := y5.below b9
  have k9 := k5.below b9
  refine (join_any (ys := ys) c0 l2 _ p9 y9 (by omega) (by omega) hc0 (by simp)).mono ?_
  rintro e w11 ⟨g11, n11, rfl, hn11, j11, b11⟩
  clear hn11
  have j12 := j9.below b11
  have y12 := y9.below b11
  have k12 := k9.below b11
  go_wp2_with fail
  refine (below_any n9 n11 _ j12 j11).mono ?_
  rintro e w13 ⟨rfl, rfl⟩
  go_wp2_with fail
  refine (below_any (xs := xs) l1 l2 _ k12 y12).mono ?_
  rintro e w14 ⟨rfl, rfl⟩
  rw [below_shift _ ⟨w2.heap.size, 0, none⟩]
  go_wp2_with fail
  go_ret
  exact ⟨rfl, B4.trans ((B5.trans ((b9.trans (b11.mono b9.size)).mono B5.size)).mono B4.size)⟩

set_option maxHeartbeats 400000 in
theorem walk_sn (a0 : Option Addr) (k : Addr) (l1 c1 : Nat) (l0 c0 : Nat) (ps xs : List Int) (w : World) (s0 : l0 ≤ 1048576) (s1 : l1 ≤ 1048576)
    (h0 : Holds w a0 l0 ps) (h1 : Holds w (some k) l1 xs) (hc0 : a0 = none → c0 = 0) :
    Calls Try.prog 3 #[.slice a0 l0 c0, .slice (some k) l1 c1, .slice none 0 0] w fun e w' => e = .returned (.bool true) ∧ Below w.heap.size w w' := by
  have q1 : ∀ (w : World) (x : Addr) (n c : Nat), (binOp .neq 22 (.slice (some x) n c) (.slice none 0 0)).run Try.prog w = .ok (.bool true) w := fun w x n c => run_neq_slice_nil_any w _ _ (some x) n c 0 0 Try.underlying22
  have q2 : ∀ (w : World) (x : Addr) (n c : Nat), (binOp .eql 22 (.slice (some x) n c) (.slice none 0 0)).run Try.prog w = .ok (.bool false) w := fun w x n c => Lib.run_eql_slice_nil w _ _ (some x) n c 0 0 Try.underlying22
  have q3 : ∀ (w : World), (binOp .neq 22 (.slice none 0 0) (.slice none 0 0)).run Try.prog w = .ok (.bool false) w := fun w => run_neq_slice_nil_any w _ _ none 0 0 0 0 Try.underlying22
  have q4 : ∀ (w : World), (binOp .eql 22 (.slice none 0 0) (.slice none 0 0)).run Try.prog w = .ok (.bool true) w := fun w => Lib.run_eql_slice_nil w _ _ none 0 0 0 0 Try.underlying22
  have N0 : ∀ W : World, Holds W none 0 [] := fun W => ⟨rfl, fun _ => rfl, fun x hx => by simp at hx⟩
  obtain ⟨w1, w2, hm1, hp1, k1, b1⟩ := clone_run (c := c1) h1 s1
  have B4 := b1
  have k4 := k1
  clear h1 k1
  have p4 := h0.below B4
  clear h0
  go_enter Try.func3, Try.ntmps3
  go_wp2_with fail
  refine (bytes_any a0 (some k) none l0 c0 l1 c1 0 0 _).mono ?_
  rintro e w' ⟨t, rfl, hw⟩
  subst hw
  cases t
  · go_wp2_with fail
    go_ret
    exact ⟨rfl, Below.refl _ _⟩
  go_wp2_with fail
  have bz : Below w2.heap.size w2 (w2.alloc (.cells #[.int .u8 0] 5)) := (Below.refl _ _).alloc (Nat.le_refl _) _
  have z5 := lit_holds w2
  refine (join_any (xs := xs) l1 1 _ (k4.below bz) z5 (by omega) (by omega) (by simp) (by simp)).mono ?_
  rintro e w5 ⟨g5, n5, rfl, hn5, j5, b5⟩
  clear hn5
  have B5 : Below w2.heap.size w2 w5 := bz.trans (b5.mono bz.size)
  have p5 := p4.below B5
  have k5 := k4.below B5
  clear p4 k4 z5
  go_wp2_with fail
  refine (below_any (xs := xs) l1 n5 _ k5 j5).mono ?_
  rintro e w6 ⟨rfl, rfl⟩
  rw [below_succ]
  go_wp2_with fail
  refine (below_any n5 l1 _ j5 k5).mono ?_
  rintro e w7 ⟨rfl, rfl⟩
  rw [below_pred]
  go_wp2_with fail
  refine (below_any l1 l1 _ k5 k5).mono ?_
  rintro e w8 ⟨rfl, rfl⟩
  rw [below_self]
  go_wp2_with fail
  refine (join_any (ys := xs) c0 l1 _ p5 k5 (by omega) (by omega) hc0 (by simp)).mono ?_
  rintro e w9 ⟨g9, n9, rfl, hn9, j9, b9⟩
  clear hn9
  go_wp2_with fail
  refine (below_any (ys := []) n9 0 _ j9 (N0 _)).mono ?_
  rintro e w10 ⟨rfl, rfl⟩
  rw [below_nil]
  go_wp2_with fail
  go_ret
  exact ⟨rfl, B4.trans ((B5.trans (b9.mono B5.size)).mono B4.size)⟩

set_option maxHeartbeats 400000 in
theorem walk_ns (a0 : Option Addr) (h : Addr) (l2 c2 : Nat) (l0 c0 : Nat) (ps ys : List Int) (w : World) (s0 : l0 ≤ 1048576) (s2 : l2 ≤ 1048576)
    (h0 : Holds w a0 l0 ps) (h2 : Holds w (some h) l2 ys) (hc0 : a0 = none → c0 = 0) :
    Calls Try.prog 3 #[.slice a0 l0 c0, .slice none 0 0, .slice (some h) l2 c2] w fun e w' => e = .returned (.bool true) ∧ Below w.heap.size w w' := by
  have q1 : ∀ (w : World) (x : Addr) (n c : Nat), (binOp .neq 22 (.slice (some x) n c) (.slice none 0 0)).run Try.prog w = .ok (.bool true) w := fun w x n c => run_neq_slice_nil_any w _ _ (some x) n c 0 0 Try.underlying22
  have q2 : ∀ (w : World) (x : Addr) (n c : Nat), (binOp .eql 22 (.slice (some x) n c) (.slice none 0 0)).run Try.prog w = .ok (.bool false) w := fun w x n c => Lib.run_eql_slice_nil w _ _ (some x) n c 0 0 Try.underlying22
  have q3 : ∀ (w : World), (binOp .neq 22 (.slice none 0 0) (.slice none 0 0)).run Try.prog w = .ok (.bool false) w := fun w => run_neq_slice_nil_any w _ _ none 0 0 0 0 Try.underlying22
  have q4 : ∀ (w : World), (binOp .eql 22 (.slice none 0 0) (.slice none 0 0)).run Try.prog w = .ok (.bool true) w := fun w => Lib.run_eql_slice_nil w _ _ none 0 0 0 0 Try.underlying22
  have N0 : ∀ W : World, Holds W none 0 [] := fun W => ⟨rfl, fun _ => rfl, fun x hx => by simp at hx⟩
  obtain ⟨w3, w4, hm2, hp2, y4, B4⟩ := clone_run (c := c2) h2 s2
  clear h2
  have p4 := h0.below B4
  clear h0
  go_enter Try.func3, Try.ntmps3
  go_wp2_with fail
  refine (bytes_any a0 none (some h) l0 c0 0 0 l2 c2 _).mono ?_
  rintro e w' ⟨t, rfl, hw⟩
  subst hw
  cases t
  · go_wp2_with fail
    go_ret
    exact ⟨rfl, Below.refl _ _⟩
  go_wp2_with fail
  have bz : Below w4.heap.size w4 (w4.alloc (.cells #[.int .u8 0] 5)) := (Below.refl _ _).alloc (Nat.le_refl _) _
  have z5 := lit_holds w4
  refine (join_any (xs := ([] : List Int)) 0 1 _ (N0 _) z5 (by omega) (by omega) (by simp) (by simp)).mono ?_
  rintro e w5 ⟨g5, n5, rfl, hn5, j5, b5⟩
  clear hn5
  have B5 : Below w4.heap.size w4 w5 := bz.trans (b5.mono bz.size)
  have p5 := p4.below B5
  have y5 := y4.below B5
  clear p4 y4 z5
  go_wp2_with fail
  refine (below_any (xs := ([] : List Int)) 0 n5 _ (N0 _) j5).mono ?_
  rintro e w6 ⟨rfl, rfl⟩
  rw [show belowB (some _) [] ([] ++ [0]) = true from below_succ _ [] 0]
  go_wp2_with fail
  refine (join_any (ys := ([] : List Int)) c0 0 _ p5 (N0 _) (by omega) (by omega) hc0 (by simp)).mono ?_
  rintro e w9 ⟨g9, n9, rfl, hn9, j9, b9⟩
  clear hn9
  go_wp2_with fail
  have p9 := p5.below b9
  have y9 := y5.below b9
  refine (join_any (ys := ys) c0 l2 _ p9 y9 (by omega) (by omega) hc0 (by simp)).mono ?_
  rintro e w11 ⟨g11, n11, rfl, hn11, j11, b11⟩
  clear hn11
  have j12 := j9.below b11
  have y12 := y9.below b11
  go_wp2_with fail
  refine (below_any n9 n11 _ j12 j11).mono ?_
  rintro e w13 ⟨rfl, rfl⟩
  go_wp2_with fail
  refine (below_any (xs := ([] : List Int)) 0 l2 _ (N0 _) y12).mono ?_
  rintro e w14 ⟨rfl, rfl⟩
  rw [below_shift_nil _ ⟨w'.heap.size, 0, none⟩]
  go_wp2_with fail
  go_ret
  exact ⟨rfl, B4.trans ((B5.trans ((b9.trans (b11.mono b9.size)).mono B5.size)).mono B4.size)⟩

set_option maxHeartbeats 400000 in
theorem walk_nn (a0 : Option Addr) (l0 c0 : Nat) (ps : List Int) (w : World) (s0 : l0 ≤ 1048576)
    (h0 : Holds w a0 l0 ps) (hc0 : a0 = none → c0 = 0) :
    Calls Try.prog 3 #[.slice a0 l0 c0, .slice none 0 0, .slice none 0 0] w fun e w' => e = .returned (.bool true) ∧ Below w.heap.size w w' := by
  have q1 : ∀ (w : World) (x : Addr) (n c : Nat), (binOp .neq 22 (.slice (some x) n c) (.slice none 0 0)).run Try.prog w = .ok (.bool true) w := fun w x n c => run_neq_slice_nil_any w _ _ (some x) n c 0 0 Try.underlying22
  have q2 : ∀ (w : World) (x : Addr) (n c : Nat), (binOp .eql 22 (.slice (some x) n c) (.slice none 0 0)).run Try.prog w = .ok (.bool false) w := fun w x n c => Lib.run_eql_slice_nil w _ _ (some x) n c 0 0 Try.underlying22
  have q3 : ∀ (w : World), (binOp .neq 22 (.slice none 0 0) (.slice none 0 0)).run Try.prog w = .ok (.bool false) w := fun w => run_neq_slice_nil_any w _ _ none 0 0 0 0 Try.underlying22
  have q4 : ∀ (w : World), (binOp .eql 22 (.slice none 0 0) (.slice none 0 0)).run Try.prog w = .ok (.bool true) w := fun w => Lib.run_eql_slice_nil w _ _ none 0 0 0 0 Try.underlying22
  have N0 : ∀ W : World, Holds W none 0 [] := fun W => ⟨rfl, fun _ => rfl, fun x hx => by simp at hx⟩
  have B4 : Below w.heap.size w w := Below.refl _ _
  have p4 := h0.below B4
  clear h0
  go_enter Try.func3, Try.ntmps3
  go_wp2_with fail
  refine (bytes_any a0 none none l0 c0 0 0 0 0 _).mono ?_
  rintro e w' ⟨t, rfl, hw⟩
  subst hw
  cases t
  · go_wp2_with fail
    go_ret
    exact ⟨rfl, Below.refl _ _⟩
  go_wp2_with fail
  have bz : Below w'.heap.size w' (w'.alloc (.cells #[.int .u8 0] 5)) := (Below.refl _ _).alloc (Nat.le_refl _) _
  have z5 := lit_holds w'
  refine (join_any (xs := ([] : List Int)) 0 1 _ (N0 _) z5 (by omega) (by omega) (by simp) (by simp)).mono ?_
  rintro e w5 ⟨g5, n5, rfl, hn5, j5, b5⟩
  clear hn5
  have B5 : Below w'.heap.size w' w5 := bz.trans (b5.mono bz.size)
  have p5 := p4.below B5
  clear p4 z5
  go_wp2_with fail
  refine (below_any (xs := ([] : List Int)) 0 n5 _ (N0 _) j5).mono ?_
  rintro e w6 ⟨rfl, rfl⟩
  rw [show belowB (some _) [] ([] ++ [0]) = true from below_succ _ [] 0]
  go_wp2_with fail
  refine (join_any (ys := ([] : List Int)) c0 0 _ p5 (N0 _) (by omega) (by omega) hc0 (by simp)).mono ?_
  rintro e w9 ⟨g9, n9, rfl, hn9, j9, b9⟩
  clear hn9
  go_wp2_with fail
  refine (below_any (ys := []) n9 0 _ j9 (N0 _)).mono ?_
  rintro e w10 ⟨rfl, rfl⟩
  rw [below_nil]
  go_wp2_with fail
  go_ret
  exact ⟨rfl, B4.trans ((B5.trans (b9.mono B5.size)).mono B4.size)⟩

/-- WHAT THE WALK IS TOLD OF A SLICE OF INTEGERS THAT CAME IN: it is nil; or it leads to a row of 'cap' cells. -/
def IsRow (k : IntKind) (w : World) (a : Option Addr) (len cap : Nat) (zs : List Int) : Prop :=
  (a = none ∧ len = 0 ∧ cap = 0 ∧ zs = []) ∨
  ∃ x, a = some x ∧ len ≤ cap ∧ cap ≤ maxLen ∧ zs.length = cap ∧ (∀ i, i < zs.length → w.cell? (x.add i) = some (.int k (zs.getD i 0))) ∧ ∀ n ∈ zs, (Lit.int k n).wf = true

theorem IsRow.holds {w : World} {a : Option Addr} {len cap : Nat} {zs : List Int} (h : IsRow .u8 w a len cap zs) : Holds w a len (zs.take len) ∧ (a = none → cap = 0) := by
  rcases h with ⟨rfl, rfl, rfl, rfl⟩ | ⟨x, rfl, h2, _, h4, h5, _⟩
  · exact ⟨⟨rfl, fun _ => rfl, fun x hx => by simp at hx⟩, fun _ => rfl⟩
  · refine ⟨⟨by simp; omega, by simp, fun y hy j v hv => ?_⟩, by simp⟩
    obtain rfl : x = y := by simpa using hy
    obtain ⟨hj, hv'⟩ := List.getElem?_eq_some_iff.1 hv
    have hj' : j < zs.length := by simp at hj; omega
    rw [h5 j hj']
    rw [List.getElem_take] at hv'
    simp [hj', hv']

/-- THE WALK: whatever the arguments: true; nothing that was there has turned. -/
theorem walk (a0 : Option Addr) (len0 cap0 : Nat) (z0 : List Int) (a1 : Option Addr) (len1 cap1 : Nat) (z1 : List Int) (a2 : Option Addr) (len2 cap2 : Nat) (z2 : List Int) (w : World) (w0 : IsRow .u8 w a0 len0 cap0 z0) (w1 : IsRow .u8 w a1 len1 cap1 z1) (w2 : IsRow .u8 w a2 len2 cap2 z2) :
    Calls Try.prog 3 #[.slice a0 len0 cap0, .slice a1 len1 cap1, .slice a2 len2 cap2] w fun e w' => e = .returned (.bool true) ∧ Below w.heap.size w w' := by
  by_cases hA : len0 ≤ 1048576 ∧ len1 ≤ 1048576 ∧ len2 ≤ 1048576
  · obtain ⟨s0, s1, s2⟩ := hA
    obtain ⟨h0, c0⟩ := w0.holds
    have h1 := w1.holds.1
    have h2 := w2.holds.1
    rcases w1 with ⟨rfl, rfl, rfl, rfl⟩ | ⟨k, rfl, _⟩
    · rcases w2 with ⟨rfl, rfl, rfl, rfl⟩ | ⟨h, rfl, _⟩
      · exact walk_nn a0 len0 cap0 _ w s0 h0 c0
      · exact walk_ns a0 h len2 cap2 len0 cap0 _ _ w s0 s2 h0 h2 c0
    · rcases w2 with ⟨rfl, rfl, rfl, rfl⟩ | ⟨h, rfl, _⟩
      · exact walk_sn a0 k len1 cap1 len0 cap0 _ _ w s0 s1 h0 h1 c0
      · exact walk_ss a0 k len1 cap1 h len2 cap2 len0 cap0 _ _ _ w s0 s1 s2 h0 h1 h2 c0
  · exact walk_big a0 a1 a2 len0 cap0 len1 cap1 len2 cap2 w (by omega)

end Go.Proofs.Qxb6616757a
