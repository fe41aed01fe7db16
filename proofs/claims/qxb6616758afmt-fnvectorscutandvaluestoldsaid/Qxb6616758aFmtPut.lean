import Derived.Test.Qxb6616758aFmtFlush
/- bufio.Writer: Write and WriteString. -/
namespace Go.Proofs.Qxb6616758aFmt
open Go.RowKit Go.Stop

theorem take_lay (R : Array Value) (n : Nat) (pd cs : List Value) (hn : R.size = 65536) (ht : R.toList.take n = pd) (hfit : n + cs.length ≤ 65536) :
    (R.toList.take n ++ cs ++ R.toList.drop (n + cs.length)).toArray.size = 65536 ∧ (R.toList.take n ++ cs ++ R.toList.drop (n + cs.length)).toArray.toList.take (pd ++ cs).length = pd ++ cs := by
  refine ⟨?_, ?_⟩
  · simp only [List.size_toArray, List.length_append, List.length_take, List.length_drop, Array.length_toList]
    omega
  · rw [ht, List.toList_toArray, List.take_left' rfl]

/-- The bytes cs laid into the row behind those pending, and the count moved on. -/
theorem row_end {B bw r b : Nat} {fl pd cs : List Value} {w : World} (h : BW B bw r b fl pd w) (hfit : pd.length + cs.length ≤ 65536) (h1 : ∀ v ∈ cs, v.oneCell' = true) (R : Array Value) (hR : w.heap[r]? = some (.cells R 5 (0, 0))) (hRs : R.size = 65536) (hRt : R.toList.take pd.length = pd) :
    BwBlock (w.setRow r (R.toList.take pd.length ++ cs ++ R.toList.drop (pd.length + cs.length)).toArray) bw r b pd.length ∧
    ∀ z : Int, z = ((pd.length + cs.length : Nat) : Int) → BW B bw r b fl (pd ++ cs) ((w.setRow r (R.toList.take pd.length ++ cs ++ R.toList.drop (pd.length + cs.length)).toArray).setCell ⟨bw, 2, none⟩ (.int .i64 z)) ∧
      Fr B bw b w ((w.setRow r (R.toList.take pd.length ++ cs ++ R.toList.drop (pd.length + cs.length)).toArray).setCell ⟨bw, 2, none⟩ (.int .i64 z)) ∧
      (Begun b fl w → Begun b fl ((w.setRow r (R.toList.take pd.length ++ cs ++ R.toList.drop (pd.length + cs.length)).toArray).setCell ⟨bw, 2, none⟩ (.int .i64 z))) := by
  have hwr := h.wr
  obtain ⟨a1, _, a3, a4, a5, a6, a7, a8, a9, a10, a11, a12⟩ := h
  obtain ⟨t1, t2⟩ := take_lay R pd.length pd cs hRs hRt hfit
  generalize (R.toList.take pd.length ++ cs ++ R.toList.drop (pd.length + cs.length)).toArray = A at t1 t2 ⊢
  have hbk : BwBlock (w.setRow r A) bw r b pd.length := by
    unfold BwBlock
    rw [setRow_other _ _ _ _ hwr]
    exact a1
  refine ⟨hbk, ?_⟩
  rintro z rfl
  have hb2 : ∀ z, ((w.setRow r A).setCell ⟨bw, 2, none⟩ z).heap[b]? = w.heap[b]? := fun z => by
    rw [Below.heap_setCell _ _ _ _ (Ne.symm a9), setRow_other _ _ _ _ (Ne.symm a10)]
  have hr2 : ∀ z, ((w.setRow r A).setCell ⟨bw, 2, none⟩ z).heap[r]? = some (.cells A 5 (0, 0)) := fun z => by
    rw [Below.heap_setCell _ _ _ _ (Ne.symm hwr)]
    exact setRow_heap w r R A 5 (0, 0) hR
  refine ⟨⟨?_, ⟨A, hr2 _, t1, t2⟩, by rw [List.length_append]; exact hfit, ?_, ?_, a6, a7, ?_, a9, a10, a11, ?_⟩, ?_, ?_⟩
  · have := heap_setCell_same _ bw 2 _ 89 (.int .i64 ((pd.length + cs.length : Nat) : Int)) hbk
    unfold BwBlock
    rw [List.length_append]
    exact this
  · obtain ⟨b1, v, lr, b2, ⟨c1, c2⟩, b4⟩ := a4
    refine ⟨b1, v, lr, (hb2 _).trans b2, ⟨c1, ?_⟩, b4⟩
    rcases c2 with c2 | ⟨g, cap, cur, e1, e2, e3, e4⟩
    · exact .inl c2
    · subst e1
      have hgr : g ≠ r := a5 ⟨g, 0, none⟩ _ _ _ _ _ _ b2
      refine .inr ⟨g, cap, cur, rfl, e2, ?_, e4⟩
      rw [Below.heap_setCell _ _ _ _ ?_, setRow_other _ _ _ _ hgr]
      · exact e3
      · intro e
        subst e
        unfold BwBlock at a1
        rw [a1] at e3
        injection e3 with e3
        injection e3 with _ e3
        cases e3
  · intro g l c x y T fz hx
    rw [hb2] at hx
    exact a5 g l c x y T fz hx
  · simp [World.setCell, World.setRow]
    exact a8
  · intro v hv
    rcases List.mem_append.1 hv with hv | hv
    · exact a12 v hv
    · exact h1 v hv
  · exact ((Fr.refl B bw b w).row a7 hR A).set a6 2 _
  · rintro (⟨e, lr, q⟩ | q)
    · exact .inl ⟨e, lr, (hb2 _).trans q⟩
    · exact .inr q

theorem put_str {B bw r b : Nat} {fl pd : List Value} {w : World} (s : ByteArray) (h : BW B bw r b fl pd w) (hfit : pd.length + s.size ≤ 65536) :
    ∃ w2, (∀ ty, (Builtin.copy_ #[24, 9] ty #[.slice (some ⟨r, pd.length, none⟩) (65536 - pd.length) (65536 - pd.length), .string s]).run Tryf.prog w = .ok (goInt s.size) w2) ∧ BwBlock w2 bw r b pd.length ∧
      ∀ z : Int, z = ((pd.length + s.size : Nat) : Int) → BW B bw r b fl (pd ++ Lib.byteCells s.data.toList) (w2.setCell ⟨bw, 2, none⟩ (.int .i64 z)) ∧ Fr B bw b w (w2.setCell ⟨bw, 2, none⟩ (.int .i64 z)) ∧ (Begun b fl w → Begun b fl (w2.setCell ⟨bw, 2, none⟩ (.int .i64 z))) := by
  obtain ⟨R, hR, hRs, hRt⟩ := h.row
  have hl : (Lib.byteCells s.data.toList).length = s.size := by rw [Lib.byteCells_length, size_list]
  have hend := row_end (cs := Lib.byteCells s.data.toList) h (by rw [hl]; exact hfit) (Lib.byteCells_one _) R hR hRs hRt
  rw [hl] at hend
  refine ⟨_, fun ty => ?_, hend⟩
  exact Lib.run_copy_row_string w 24 9 ty 5 r pd.length (65536 - pd.length) (65536 - pd.length) s R 5 Tryf.underlying24 hinfo5 hR (by omega) (by omega)

theorem put_row {B bw r b m c : Nat} {fl pd cs : List Value} {a : Addr} {w : World} (h : BW B bw r b fl pd w) (hm : cs.length = m) (hfit : pd.length + m ≤ 65536) (h1 : ∀ v ∈ cs, v.oneCell' = true) (hsrc : ∀ j v, cs[j]? = some v → w.cell? (a.add j) = some v) :
    ∃ w2, (∀ ty, (Builtin.copy_ #[24, 24] ty #[.slice (some ⟨r, pd.length, none⟩) (65536 - pd.length) (65536 - pd.length), .slice (some a) m c]).run Tryf.prog w = .ok (goInt m) w2) ∧ BwBlock w2 bw r b pd.length ∧
      ∀ z : Int, z = ((pd.length + m : Nat) : Int) → BW B bw r b fl (pd ++ cs) (w2.setCell ⟨bw, 2, none⟩ (.int .i64 z)) ∧ Fr B bw b w (w2.setCell ⟨bw, 2, none⟩ (.int .i64 z)) ∧ (Begun b fl w → Begun b fl (w2.setCell ⟨bw, 2, none⟩ (.int .i64 z))) := by
  subst hm
  obtain ⟨R, hR, hRs, hRt⟩ := h.row
  have hend := row_end (cs := cs) h hfit h1 R hR hRs hRt
  refine ⟨_, fun ty => ?_, hend⟩
  exact run_copy_row (P := Tryf.prog) w 24 24 ty 5 r pd.length (65536 - pd.length) (65536 - pd.length) a cs.length c R 5 cs Tryf.underlying24 hinfo5 hR (Nat.min_eq_left (by omega)).symm hsrc (by omega) h1

set_option maxHeartbeats 1600000 in
set_option maxRecDepth 100000 in
/-- WriteString, where the string fits. -/
theorem bws_any (B bw r b : Nat) (fl pd : List Value) (s : ByteArray) (w : World) (h : BW B bw r b fl pd w) (hbg : Begun b fl w) (hfit : pd.length + s.size ≤ 65536) (hlt : pd.length < 65536) :
    Calls Tryf.prog 84 #[.pointer (some ⟨bw, 0, none⟩), .string s] w fun e w' => e = .returned (.tuple #[.int .i64 s.size, .nilIface]) ∧ BW B bw r b fl (pd ++ Lib.byteCells s.data.toList) w' ∧ Fr B bw b w w' ∧ Begun b fl w' := by
  obtain ⟨n, hn⟩ : ∃ n, pd.length = n := ⟨_, rfl⟩
  go_enter Tryf.func84, Tryf.ntmps84
  go_wp2_with fail
  go_loopw [8, 1, 6, 7, 9] (fun nn p _ _ _ wr => nn = .int .i64 0 ∧ p = .string s ∧ wr = w) (fun _ _ _ _ _ _ => 0)
  case atStart => exact ⟨rfl, rfl, rfl⟩
  case round =>
    obtain ⟨rfl, rfl, rfl⟩ := hrel
    have hbk0 := h.blk
    rw [hn] at hbk0 hfit hlt
    have hne : ¬ (65536 = n) := by omega
    go_wp2_with fail
    refine (avail_any bw r b n _ hbk0 (by omega)).mono ?_
    rintro e w1 ⟨rfl, k, hw1⟩
    have h1 : BW B bw r b fl pd w1 := h.same (by rw [hw1]; rfl)
    have hbg1 : Begun b fl w1 := by rw [hw1]; exact hbg
    have hfr1 : Fr B bw b wr w1 := by rw [hw1]; exact (Fr.refl _ _ _ _).drewN k
    obtain ⟨w2, hcp, hbk2, hend⟩ := put_str (w := w1.drew) s (h1.same rfl) (by rw [hn]; exact hfit)
    have hbk1 := h1.blk
    rw [hn] at hcp hbk1 hbk2 hend
    obtain ⟨c0, c1, c2, c3, f2⟩ := hbk1.cells
    obtain ⟨d0, d1, d2, d3, g2⟩ := hbk2.cells
    have hge : ¬ ((65536 - n : Nat) : Int) < (s.size : Int) := by omega
    have hcast : ((65536 - n : Nat) : Int) = 65536 - (n : Int) := by omega
    have HE : Hid (∀ z : Int, z = ((n + s.size : Nat) : Int) → BW B bw r b fl (pd ++ Lib.byteCells s.data.toList) (w2.setCell ⟨bw, 2, none⟩ (.int .i64 z)) ∧ Fr B bw b w1.drew (w2.setCell ⟨bw, 2, none⟩ (.int .i64 z)) ∧ (Begun b fl w1.drew → Begun b fl (w2.setCell ⟨bw, 2, none⟩ (.int .i64 z)))) := hend
    clear hend hw1 hbk0 hbk1 hbk2
    go_wp2_with fail
    go_region
    all_goals (
      go_wp2_with fail
      go_ret2
      exact ⟨by simp, (HE.out _ (by omega)).1, hfr1.drew.trans (HE.out _ (by omega)).2.1, (HE.out _ (by omega)).2.2 hbg1⟩)

end Go.Proofs.Qxb6616758aFmt
