import Derived.Test.Qxb6616758aFmtHas
import Derived.Laws.CopyOwn
namespace Go.Proofs.Qxb6616758aFmt
open Go.RowKit Go.Stop

theorem Tryf.info3 : (Tryf.prog.info? 3).map (fun i => (i.zero, i.size, i.bytes)) = some (some (.int .i64 0), 1, 8) := by kernel_rfl
theorem Tryf.size3 : (Tryf.prog.info? 3).map (·.size) = some 1 := by kernel_rfl

set_option maxHeartbeats 800000 in
theorem bytes6_any (a b : ByteArray) (x : Option Addr) (len cap : Nat) (w : World) :
    Calls Tryf.prog 6 #[.string a, .string b, .slice x len cap] w fun e w' => ∃ t, e = .returned (.bool t) ∧ w' = w := by
  go_enter Tryf.func6, Tryf.ntmps6
  go_wp2
  all_goals (go_ret; exact ⟨_, rfl, rfl⟩)

set_option maxHeartbeats 800000 in
theorem law1_big (a b : ByteArray) (x : Option Addr) (len cap : Nat) (w : World) (h : 262144 < a.size ∨ (a.size ≤ 262144 ∧ 262144 < b.size) ∨ (a.size ≤ 262144 ∧ b.size ≤ 262144 ∧ 65536 < len)) :
    Calls Tryf.prog 3 #[.string a, .string b, .slice x len cap] w fun e w' => e = .returned (.bool true) ∧ Below w.heap.size w w' := by
  rcases h with h1 | ⟨h1, h2⟩ | ⟨h1, h2, h3⟩
  all_goals
    go_enter Tryf.func3, Tryf.ntmps3
    go_wp2_with fail
    refine (bytes6_any a b x len cap _).mono ?_
    rintro e w' ⟨t, rfl, rfl⟩
    cases t <;> go_wp2_with fail
    all_goals (go_ret; exact ⟨rfl, Below.refl _ _⟩)

theorem row_of_owns {w : World} {base g n : Nat} {e : TypeId} {xs : List Value} (h : w.ownsRow base e 1 (.slice (some ⟨g, 0, none⟩) n n) n xs) : ∃ cur : List Value, cur.length = n ∧ w.heap[g]? = some (.cells cur.toArray e (0, 0)) := by
  rcases h.2 with ⟨h', _⟩ | ⟨g', cap', cur, h', _, hg, _, _, hs, _⟩
  · simp at h'
  · simp only [Value.slice.injEq, Option.some.injEq, Addr.mk.injEq, and_true, true_and] at h'
    obtain ⟨rfl, rfl⟩ := h'
    exact ⟨cur.toList, by simpa using hs, by simpa using hg⟩

theorem splice_all {cur cs : List Value} (h : cs.length = cur.length) : splice cur 0 cs = cs := by
  unfold splice
  rw [List.take_zero, List.nil_append, List.drop_eq_nil_of_le (by omega), List.append_nil]

/-- 'zzc := make([]int, len(shape)); copy(zzc, shape)', both runs. -/
theorem clone_ints {w : World} {len c : Nat} {k : Addr} {zs : List Int} (h : Ints w (some k) len zs) (hl : len ≤ 65536) :
    ∃ w1 w2, (Instr.makeSlice 22 (.int .i64 (len : Int)) (.int .i64 (len : Int))).run Tryf.prog w = .ok (.slice (some ⟨w.heap.size, 0, none⟩) len len) w1 ∧
      (∀ ty, (Builtin.copy_ #[22, 22] ty #[.slice (some ⟨w.heap.size, 0, none⟩) len len, .slice (some k) len c]).run Tryf.prog w1 = .ok (.int .i64 (len : Int)) w2) ∧ Ints w2 (some ⟨w.heap.size, 0, none⟩) len zs ∧ Below w.heap.size w w2 := by
  obtain ⟨i0, hi, hz0, hz1, hz2⟩ := info_parts Tryf.info3
  obtain ⟨w1, hrun, hown, hgrow⟩ := run_make_full (P := Tryf.prog) w w.heap.size 22 3 i0 (.int .i64 0) 1 Tryf.underlying22 hi hz0 hz1 .i64 .i64 len (by rw [hz2]; omega) (by unfold maxLen; omega) (Nat.le_refl _)
  have hb1 : Below w.heap.size w w1 := (Below.refl _ _).grown hgrow (Nat.le_refl _) (fun k hk => by cases hk)
  obtain ⟨cur, hcl, hcg⟩ := row_of_owns hown
  have h1 := h.below hb1
  by_cases h0 : len = 0
  · subst h0
    obtain rfl : zs = [] := List.eq_nil_of_length_eq_zero h.1
    exact ⟨w1, w1, hrun, fun ty => run_copy_none (P := Tryf.prog) w1 22 22 ty 3 _ _ 0 0 0 c Tryf.underlying22 Tryf.size3 rfl, ⟨rfl, by simp, fun x _ j v hv => by simp at hv, by simp⟩, hb1⟩
  · have hcs : (zs.map (Value.int .i64)).length = Nat.min len len := by simp [h.1]
    have hsrc : ∀ j v, (zs.map (Value.int .i64))[j]? = some v → w1.cell? (k.add j) = some v := fun j u hu => by
      rw [List.getElem?_map] at hu
      obtain ⟨v, hv, rfl⟩ := Option.map_eq_some_iff.1 hu
      exact h1.2.2.1 k rfl j v hv
    refine ⟨w1, w1.setRow w.heap.size (zs.map (Value.int .i64)).toArray, hrun, fun ty => ?_, ⟨h.1, by simp, fun x hx j v hv => ?_, h.2.2.2⟩, below_setRow hb1 (Nat.le_refl _) _⟩
    · have e := run_copy_row (P := Tryf.prog) w1 22 22 ty 3 w.heap.size 0 len len k len c cur.toArray 3 (zs.map (Value.int .i64)) Tryf.underlying22 Tryf.size3 hcg hcs hsrc (by simp [hcl, h.1]) (ints_oneCell _ _)
      have e2 := splice_all (cur := cur) (cs := zs.map (Value.int .i64)) (by simp [h.1, hcl])
      unfold splice at e2
      rw [e, List.append_assoc]
      show Result.ok (goInt _) (w1.setRow _ (cur.take 0 ++ (_ ++ cur.drop _)).toArray) = _
      rw [e2]
      simp [goInt, h.1]
    · obtain rfl : (⟨w.heap.size, 0, none⟩ : Addr) = x := by simpa using hx
      rw [add_at, Nat.zero_add, cell_of_row _ _ _ _ _ _ (setRow_heap w1 w.heap.size _ _ 3 _ hcg)]
      simp [hv]

end Go.Proofs.Qxb6616758aFmt
