import Derived.Test.Qxb6616758aFmtOwn
namespace Go.Proofs.Qxb6616758aFmt
open Go.RowKit Go.Stop

/-- The buffer is still the zero value, or it holds at least 65536 bytes. -/
def Begun (b : Nat) (bs : List Value) (w : World) : Prop := (bs = [] ∧ ∃ lr, w.heap[b]? = some (.cells #[.slice none 0 0, .int .i64 0, .int .i8 lr] 41 (0, 0))) ∨ 65536 ≤ bs.length

theorem tg_off (B b r n : Nat) (bs : List Value) (w : World) (h : Lib.IsBuffer 41 5 B b bs w) (ho : Off b r w) (hn : 1 ≤ n) :
    Calls Tryf.prog 76 #[.pointer (some ⟨b, 0, none⟩), .int .i64 n] w fun e w' => (e = .returned (.tuple #[.int .i64 bs.length, .bool true]) ∧ Grown B b r n bs w w') ∨ (e = .returned (.tuple #[.int .i64 0, .bool false]) ∧ w' = w ∧ Lib.NoRoom b n w) := by
  obtain ⟨hB, lr, hc⟩ := h.cases
  rcases hc with ⟨rfl, hbk⟩ | ⟨g, cap, cur, hbk, hBg, hg, hnc, hcm, hcs, htk, hgb⟩
  · have c0 : w.cell? ⟨b, 0, none⟩ = some (.slice none 0 0) := by rw [Lib.cell_of_heap hbk]; rfl
    refine (tg_none b none 0 0 n w c0 (Nat.le_refl _) (Nat.zero_le _) (by omega)).mono ?_
    rintro e w' ⟨rfl, rfl⟩
    exact Or.inr ⟨rfl, rfl, none, 0, 0, c0, by omega⟩
  · have c0 : w.cell? ⟨b, 0, none⟩ = some (.slice (some ⟨g, 0, none⟩) bs.length cap) := by rw [Lib.cell_of_heap hbk]; rfl
    have f0 := Lib.frozen_of_heap hbk 0
    by_cases hr : n ≤ cap - bs.length
    · refine (tg_room b _ bs.length cap n w c0 f0 hnc hcm hr).mono ?_
      rintro e w' ⟨rfl, rfl⟩
      refine Or.inl ⟨rfl, g, cap, cur, lr, heap_setCell_same _ b 0 _ 41 _ hbk, hBg, ?_, by omega, hcm, hcs, htk, hgb, ho ⟨g, 0, none⟩ _ _ _ _ _ _ hbk, (Below.refl B w).setCell (p := ⟨b, 0, none⟩) hB _, (Lib.OthersKept.refl _ _ w).setCell ⟨b, 0, none⟩ rfl _, Lib.grownBy_setCell w b 0 _⟩
      rw [Below.heap_setCell _ _ _ _ hgb]; exact hg
    · refine (tg_none b _ bs.length cap n w c0 hnc hcm (by omega)).mono ?_
      rintro e w' ⟨rfl, rfl⟩
      exact Or.inr ⟨rfl, rfl, _, _, _, c0, by omega⟩

theorem g_off (B b r n : Nat) (bs : List Value) (R : Array Value) (w : World) (h : Lib.IsBuffer 41 5 B b bs w) (hnr : Lib.NoRoom b n w) (hBw : B ≤ w.heap.size) (h1 : ∀ v ∈ bs, v.oneCell' = true) (hlim : bs.length + n ≤ 140737488355328)
    (hrb : r ≠ b) (hR : w.heap[r]? = some (.cells R 5 (0, 0))) (hRs : R.size = 65536) (hn : 1 ≤ n) (hbg : Begun b bs w) (h64 : bs = [] → 64 < n) :
    Calls Tryf.prog 77 #[.pointer (some ⟨b, 0, none⟩), .int .i64 n] w fun e w' => e = .returned (.int .i64 bs.length) ∧ Grown B b r n bs w w' := by
  have hrw := lt_of_block hR
  rcases hbg with ⟨rfl, lr, hbk⟩ | hbig
  · refine (g_nil B b n lr w h.1 hBw hbk (h64 rfl) (by simpa using hlim)).mono ?_
    rintro e w' ⟨rfl, cap, cur, q1, q2, q3, q4, q5, q6, q7, q8⟩
    have hbw := lt_of_block hbk
    exact ⟨rfl, w.heap.size, cap, cur, lr, by simpa using q1, hBw, q2, by simpa using q3, q4, q5, by simp, by omega, by omega, q6, q7, q8⟩
  · refine (g_own B b n bs w h hnr hBw h1 hlim).mono ?_
    rintro e w' ⟨rfl, xs, hxl, hI, q6, q7, q8⟩
    obtain ⟨hB, lr, hc⟩ := hI.cases
    rcases hc with ⟨hx, -⟩ | ⟨g, cap, cur, hbk, hBg, hg, hnc, hcm, hcs, htk, hgb⟩
    · have := congrArg List.length hx
      rw [List.length_append, List.length_nil] at this
      omega
    · rw [List.length_append, hxl] at hbk hnc htk
      refine ⟨rfl, g, cap, cur, lr, hbk, hBg, hg, hnc, hcm, hcs, ?_, hgb, ?_, q6, q7, q8⟩
      · have h3 := congrArg (List.take bs.length) htk
        rwa [List.take_take, Nat.min_eq_left (Nat.le_add_right _ _), List.take_left' rfl] at h3
      · intro e
        subst e
        have hk := q8.block g hrw (by simp; exact hgb)
        rw [hg, hR] at hk
        injection hk with hk
        injection hk with hk
        rw [hk, hRs] at hcs
        omega

theorem hinfo5 : (Tryf.prog.info? 5).map (·.size) = some 1 := by kernel_rfl

theorem wr_end {B b r n : Nat} {bs cs : List Value} {R : Array Value} {w w1 : World} (hB : B ≤ b) (hG : Grown B b r n bs w w1) (hn : cs.length = n) (hrb : r ≠ b) (hR : w.heap[r]? = some (.cells R 5 (0, 0))) (hcs : cs = R.toList.take n) (h1c : ∀ v ∈ cs, v.oneCell' = true) :
    ∃ g cap w2, w1.cell? ⟨b, 0, none⟩ = some (.slice (some ⟨g, 0, none⟩) (bs.length + n) cap) ∧ bs.length + n ≤ cap ∧ cap ≤ maxLen ∧
      (∀ ty, (Builtin.copy_ #[24, 24] ty #[.slice (some ⟨g, bs.length, none⟩) n (cap - bs.length), .slice (some ⟨r, 0, none⟩) n 65536]).run Tryf.prog w1 = .ok (goInt n) w2) ∧
      Lib.IsBuffer 41 5 B b (bs ++ cs) w2 ∧ Off b r w2 ∧ w2.heap[r]? = some (.cells R 5 (0, 0)) ∧ Below B w w2 ∧ Lib.OthersKept 5 (some b) w w2 := by
  obtain ⟨g, cap, cur, lr, hbk, hBg, hg, hnc, hcm, hcsz, htk, hgb, hgr, q6, q7, q8⟩ := hG
  have hrw := lt_of_block hR
  have hR1 : w1.heap[r]? = some (.cells R 5 (0, 0)) := (q8.block r hrw (by simp; exact hrb)).trans hR
  have hsrc : ∀ j v, cs[j]? = some v → w1.cell? ((⟨r, 0, none⟩ : Addr).add j) = some v := by
    intro j v hv
    rw [add_at, Nat.zero_add, cell_of_row _ _ _ _ _ _ hR1]
    rw [hcs, List.getElem?_take] at hv
    split at hv
    · rw [← Array.getElem?_toList]; exact hv
    · simp at hv
  refine ⟨g, cap, w1.setRow g (cur.toList.take bs.length ++ cs ++ cur.toList.drop (bs.length + cs.length)).toArray, by rw [Lib.cell_of_heap hbk]; rfl, hnc, hcm, fun ty => ?_, ?_⟩
  · have hcp := run_copy_row (P := Tryf.prog) w1 24 24 ty 5 g bs.length n (cap - bs.length) ⟨r, 0, none⟩ n 65536 cur 5 cs Tryf.underlying24 hinfo5 hg (by rw [hn]; exact (Nat.min_self n).symm) hsrc (by rw [hn]; omega) h1c
    rw [hcp, hn]
  · obtain ⟨r1, r2⟩ := Lib.written_end (news := cs) (l := bs.length) hB (by rw [hn]; exact hbk) hBg hg hcm hcsz hgb (by rw [hn]; exact hnc)
    refine ⟨by rw [htk] at r1 ⊢; exact r1, ?_, ?_, q6.trans r2, q7.setRow hg _⟩
    · intro x l c y z T fz hx
      rw [setRow_other _ _ _ _ (Ne.symm hgb), hbk] at hx
      injection hx with hx
      injection hx with hx
      simp at hx
      rw [← hx.1.1]
      exact hgr
    · rw [setRow_other _ _ _ _ (Ne.symm hgr)]
      exact hR1

set_option maxHeartbeats 1600000 in
set_option maxRecDepth 100000 in
/-- (*bytes.Buffer).Write(buf[0:n]), buf the row r. -/
theorem bw_own (B b r n : Nat) (bs cs : List Value) (R : Array Value) (w : World) (h : Lib.IsBuffer 41 5 B b bs w) (ho : Off b r w) (hBw : B ≤ w.heap.size) (h1 : ∀ v ∈ bs, v.oneCell' = true) (hlim : bs.length ≤ 8589934592)
    (hrb : r ≠ b) (hR : w.heap[r]? = some (.cells R 5 (0, 0))) (hRs : R.size = 65536) (hn : 1 ≤ n) (hn6 : n ≤ 65536) (hcs : cs = R.toList.take n) (h1c : ∀ v ∈ cs, v.oneCell' = true) (hbg : Begun b bs w) (h64 : bs = [] → 64 < n) :
    Calls Tryf.prog 74 #[.pointer (some ⟨b, 0, none⟩), .slice (some ⟨r, 0, none⟩) n 65536] w fun e w' => e = .returned (.tuple #[.int .i64 n, .nilIface]) ∧ Lib.IsBuffer 41 5 B b (bs ++ cs) w' ∧ Off b r w' ∧ w'.heap[r]? = some (.cells R 5 (0, 0)) ∧ Below B w w' ∧ Lib.OthersKept 5 (some b) w w' := by
  have hcl : cs.length = n := by rw [hcs, List.length_take, Array.length_toList, hRs]; omega
  obtain ⟨hB, v0, lr, hbk, hown, hob⟩ := id h
  have c2 : w.cell? ⟨b, 2, none⟩ = some (.int .i8 lr) := by rw [Lib.cell_of_heap hbk]; rfl
  have f2 : w.frozen? ⟨b, 2, none⟩ = false := Lib.frozen_of_heap hbk 2
  obtain ⟨wl, hwl⟩ : ∃ wl, w.setCell ⟨b, 2, none⟩ (.int .i8 0) = wl := ⟨_, rfl⟩
  have h' : Lib.IsBuffer 41 5 B b bs wl := by rw [← hwl]; exact h.setLast 0
  have hbk' : wl.heap[b]? = some (.cells #[v0, .int .i64 0, .int .i8 0] 41 (0, 0)) := by rw [← hwl]; exact heap_setCell_same _ b 2 _ 41 _ hbk
  have ho' : Off b r wl := by
    intro g l c x y T fz hx
    rw [hbk'] at hx
    injection hx with hx
    injection hx with hx
    simp at hx
    refine ho g l c (.int .i64 0) (.int .i8 lr) 41 (0, 0) ?_
    rw [hbk, hx.1]
  have hbg' : Begun b bs wl := by
    rcases hbg with ⟨hb0, lr0, hq⟩ | hb
    · refine .inl ⟨hb0, 0, ?_⟩
      rw [hq] at hbk
      injection hbk with hx
      injection hx with hx
      simp at hx
      rw [hbk', ← hx.1]
    · exact .inr hb
  have hR' : wl.heap[r]? = some (.cells R 5 (0, 0)) := by rw [← hwl, Below.heap_setCell _ _ _ _ hrb]; exact hR
  have hbel0 : Below B w wl := by rw [← hwl]; exact (Below.refl B w).setCell (p := ⟨b, 2, none⟩) hB _
  have hk0 : Lib.OthersKept 5 (some b) w wl := by rw [← hwl]; exact (Lib.OthersKept.refl _ _ w).setCell ⟨b, 2, none⟩ rfl _
  clear hbk hown hob hbk' h ho hbg
  go_enter Tryf.func74, Tryf.ntmps74
  go_wp2_with fail
  refine (tg_off B b r n bs wl h' ho' hn).mono ?_
  rintro e W1 (⟨rfl, hG⟩ | ⟨rfl, rfl, hnr⟩)
  · obtain ⟨g, cap, w2, d0, hnc, hcm, hcp, r1, r2, r3, r4, r5⟩ := wr_end hB hG hcl hrb hR' hcs h1c
    unfold maxLen at hcm
    clear hG
    go_wp2_with fail
    go_ret2
    exact ⟨rfl, r1, r2, r3, hbel0.trans r4, hk0.trans r5⟩
  · go_wp2_with fail
    refine (g_off B b r n bs R W1 h' hnr (Nat.le_trans hBw hbel0.size) h1 (by omega) hrb hR' hRs hn hbg' h64).mono ?_
    rintro e W2 ⟨rfl, hG⟩
    obtain ⟨g, cap, w2, d0, hnc, hcm, hcp, r1, r2, r3, r4, r5⟩ := wr_end hB hG hcl hrb hR' hcs h1c
    unfold maxLen at hcm
    clear hG
    go_wp2_with fail
    go_ret2
    exact ⟨rfl, r1, r2, r3, hbel0.trans r4, hk0.trans r5⟩

end Go.Proofs.Qxb6616758aFmt
