import Derived.Test.Qxb6616758aFmtOwn2
/- bufio.Writer (size 65536) onto a bytes.Buffer that the call made. -/
namespace Go.Proofs.Qxb6616758aFmt
open Go.RowKit Go.Stop

/-- The bufio.Writer's block: no error, the row r of 65536 bytes, n of them pending, onto the buffer in block b. -/
def BwBlock (w : World) (bw r b n : Nat) : Prop := w.heap[bw]? = some (.cells #[.nilIface, .slice (some ⟨r, 0, none⟩) 65536 65536, .int .i64 n, .iface 43 (.pointer (some ⟨b, 0, none⟩))] 89 (0, 0))

/-- Nothing turns but the writer's block, the buffer's block and rows of bytes. -/
def Fr (B bw b : Nat) (w w' : World) : Prop := Below B w w' ∧ ∀ k o, w.heap[k]? = some o → k ≠ bw → k ≠ b → (∀ c fz, o ≠ .cells c 5 fz) → w'.heap[k]? = some o

theorem Fr.refl (B bw b : Nat) (w : World) : Fr B bw b w w := ⟨Below.refl _ _, fun _ _ h _ _ _ => h⟩
theorem Fr.trans {B bw b : Nat} {w w1 w2 : World} (h : Fr B bw b w w1) (k : Fr B bw b w1 w2) : Fr B bw b w w2 := ⟨h.1.trans k.1, fun i o hi h1 h2 h3 => k.2 i o (h.2 i o hi h1 h2 h3) h1 h2 h3⟩
theorem Fr.set {B bw b : Nat} {w w1 : World} (h : Fr B bw b w w1) (hB : B ≤ bw) (i : Nat) (v : Value) : Fr B bw b w (w1.setCell ⟨bw, i, none⟩ v) :=
  ⟨h.1.setCell (p := ⟨bw, i, none⟩) hB _, fun k o hk h1 h2 h3 => by rw [Below.heap_setCell _ _ _ _ h1]; exact h.2 k o hk h1 h2 h3⟩
theorem Fr.drewN {B bw b : Nat} {w w1 : World} (h : Fr B bw b w w1) (n : Nat) : Fr B bw b w (w1.drewN n) := ⟨below_drewN h.1 n, h.2⟩
theorem Fr.drew {B bw b : Nat} {w w1 : World} (h : Fr B bw b w w1) : Fr B bw b w w1.drew := ⟨h.1.drew, h.2⟩
theorem Fr.below {B bw b : Nat} {w w1 w2 : World} (h : Fr B bw b w w1) (hB : B ≤ w1.heap.size) (k : Below w1.heap.size w1 w2) : Fr B bw b w w2 :=
  ⟨h.1.trans (k.mono hB), fun i o hi h1 h2 h3 => by have q := h.2 i o hi h1 h2 h3; exact (k.block i (lt_of_block q)).trans q⟩
theorem Fr.row {B bw b r : Nat} {w w1 : World} {R : Array Value} (h : Fr B bw b w w1) (hB : B ≤ r) (hr : w1.heap[r]? = some (.cells R 5 (0, 0))) (A : Array Value) : Fr B bw b w (w1.setRow r A) := by
  refine ⟨?_, fun k o hk h1 h2 h3 => ?_⟩
  · refine h.1.trans ⟨rfl, rfl, rfl, ?_, fun i hi => setRow_other _ _ _ _ (by omega)⟩
    simp [World.setRow]
  · have q := h.2 k o hk h1 h2 h3
    by_cases e : k = r
    · subst e
      rw [hr] at q
      injection q with q
      exact absurd q.symm (h3 _ _)
    · rw [setRow_other _ _ _ _ e]; exact q

/-- The writer: fl is what has gone to the buffer, pd what is pending. -/
structure BW (B bw r b : Nat) (fl pd : List Value) (w : World) : Prop where
  blk : BwBlock w bw r b pd.length
  row : ∃ R, w.heap[r]? = some (.cells R 5 (0, 0)) ∧ R.size = 65536 ∧ R.toList.take pd.length = pd
  room : pd.length ≤ 65536
  buf : Lib.IsBuffer 41 5 B b fl w
  off : Off b r w
  hBw : B ≤ bw
  hBr : B ≤ r
  hBs : B ≤ w.heap.size
  wb : bw ≠ b
  rb : r ≠ b
  one1 : ∀ v ∈ fl, v.oneCell' = true
  one2 : ∀ v ∈ pd, v.oneCell' = true

theorem BW.wr {B bw r b : Nat} {fl pd : List Value} {w : World} (h : BW B bw r b fl pd w) : bw ≠ r := by
  intro e
  obtain ⟨R, hR, _⟩ := h.row
  have := h.blk
  unfold BwBlock at this
  rw [e, hR] at this
  injection this with this
  injection this with _ this
  cases this

theorem BW.same {B bw r b : Nat} {fl pd : List Value} {w w' : World} (h : BW B bw r b fl pd w) (hh : w'.heap = w.heap) : BW B bw r b fl pd w' := by
  obtain ⟨a1, a2, a3, a4, a5, a6, a7, a8, a9, a10, a11, a12⟩ := h
  refine ⟨?_, ?_, a3, ?_, ?_, a6, a7, by rw [hh]; exact a8, a9, a10, a11, a12⟩
  · unfold BwBlock at *; rw [hh]; exact a1
  · rw [hh]; exact a2
  · obtain ⟨b1, v, lr, b2, ⟨c1, c2⟩, b4⟩ := a4
    refine ⟨b1, v, lr, by rw [hh]; exact b2, ⟨c1, ?_⟩, b4⟩
    rw [hh]; exact c2
  · unfold Off at *; rw [hh]; exact a5

theorem BW.below {B bw r b : Nat} {fl pd : List Value} {w w' : World} (h : BW B bw r b fl pd w) (hb : Below w.heap.size w w') : BW B bw r b fl pd w' := by
  obtain ⟨a1, ⟨R, r1, r2, r3⟩, a3, a4, a5, a6, a7, a8, a9, a10, a11, a12⟩ := h
  have e1 := hb.block bw (lt_of_block a1)
  have e2 := hb.block b a4.lt
  refine ⟨e1.trans a1, ⟨R, (hb.block r (lt_of_block r1)).trans r1, r2, r3⟩, a3, buf_below a4 hb, ?_, a6, a7, Nat.le_trans a8 hb.size, a9, a10, a11, a12⟩
  intro g l c x y T fz hx
  rw [e2] at hx
  exact a5 g l c x y T fz hx

set_option maxHeartbeats 800000 in
set_option maxRecDepth 100000 in
theorem avail_any (bw r b n : Nat) (w : World) (h : BwBlock w bw r b n) (hn : n ≤ 65536) :
    Calls Tryf.prog 36 #[.pointer (some ⟨bw, 0, none⟩)] w fun e w' => e = .returned (.int .i64 ((65536 - n : Nat) : Int)) ∧ ∃ k, w' = w.drewN k := by
  have c1 : w.cell? ⟨bw, 1, none⟩ = some (.slice (some ⟨r, 0, none⟩) 65536 65536) := by rw [Lib.cell_of_heap h]; rfl
  have c2 : w.cell? ⟨bw, 2, none⟩ = some (.int .i64 n) := by rw [Lib.cell_of_heap h]; rfl
  go_enter Tryf.func36, Tryf.ntmps36
  go_wp2
  go_quiet (fail)
  go_wp2
  go_ret
  exact ⟨by go_num, _, rfl⟩

set_option maxHeartbeats 800000 in
set_option maxRecDepth 100000 in
theorem buffered_any (bw r b n : Nat) (w : World) (h : BwBlock w bw r b n) :
    Calls Tryf.prog 37 #[.pointer (some ⟨bw, 0, none⟩)] w fun e w' => e = .returned (.int .i64 n) ∧ w' = w := by
  have c2 : w.cell? ⟨bw, 2, none⟩ = some (.int .i64 n) := by rw [Lib.cell_of_heap h]; rfl
  go_enter Tryf.func37, Tryf.ntmps37
  go_wp2
  go_ret
  exact ⟨rfl, rfl⟩

theorem flush_at {B bw r b : Nat} {fl pd : List Value} (w : World) (h : BW B bw r b fl pd w) (hbg : Begun b fl w) (h64 : fl = [] → 64 < pd.length) (hpos : 1 ≤ pd.length) (hlim : fl.length ≤ 8589934592) :
    Calls Tryf.prog 74 #[.pointer (some ⟨b, 0, none⟩), .slice (some ⟨r, 0, none⟩) pd.length 65536] w.drew fun e w' => e = .returned (.tuple #[.int .i64 pd.length, .nilIface]) ∧ Lib.IsBuffer 41 5 B b (fl ++ pd) w' ∧ Off b r w' ∧ (∃ R, w'.heap[r]? = some (.cells R 5 (0, 0)) ∧ R.size = 65536) ∧ BwBlock w' bw r b pd.length ∧ Fr B bw b w w' := by
  obtain ⟨a1, ⟨R, r1, r2, r3⟩, a3, a4, a5, a6, a7, a8, a9, a10, a11, a12⟩ := h
  refine (bw_own B b r pd.length fl pd R w.drew a4 a5 a8 a11 hlim a10 r1 r2 hpos a3 r3.symm a12 hbg h64).mono ?_
  rintro e w' ⟨rfl, h1, h2, h3, h4, h5⟩
  refine ⟨rfl, h1, h2, ⟨R, h3, r2⟩, h5 _ _ a1 (by simp; exact a9) (by simp), ⟨h4.os, h4.tape, h4.output, h4.size, h4.block⟩, fun k o hk _ k2 k3 => h5 k o hk (by simp; exact k2) k3⟩

theorem flush_end {B bw r b n : Nat} {fl pd : List Value} {w w1 : World} (h : BW B bw r b fl pd w) (hI : Lib.IsBuffer 41 5 B b (fl ++ pd) w1) (hoff : Off b r w1) (hrow : ∃ R, w1.heap[r]? = some (.cells R 5 (0, 0)) ∧ R.size = 65536) (hbk : BwBlock w1 bw r b n) (hfr : Fr B bw b w w1) :
    BW B bw r b (fl ++ pd) [] (w1.setCell ⟨bw, 2, none⟩ (.int .i64 0)) ∧ Fr B bw b w (w1.setCell ⟨bw, 2, none⟩ (.int .i64 0)) := by
  have hwr := h.wr
  obtain ⟨a1, _, a3, a4, a5, a6, a7, a8, a9, a10, a11, a12⟩ := h
  obtain ⟨R, r1, r2⟩ := hrow
  refine ⟨⟨heap_setCell_same _ bw 2 _ 89 _ hbk, ⟨R, by rw [Below.heap_setCell _ _ _ _ (Ne.symm hwr)]; exact r1, r2, by simp⟩, by simp, ?_, ?_, a6, a7, ?_, a9, a10, ?_, by simp⟩, hfr.set a6 2 _⟩
  · obtain ⟨b1, v, lr, b2, b3, b4⟩ := hI
    have b2' : (w1.setCell ⟨bw, 2, none⟩ (.int .i64 0)).heap[b]? = some (.cells #[v, .int .i64 0, .int .i8 lr] 41 (0, 0)) := by rw [Below.heap_setCell _ _ _ _ (Ne.symm a9)]; exact b2
    refine ⟨b1, v, lr, b2', ?_, b4⟩
    obtain ⟨c1, c2⟩ := b3
    refine ⟨c1, ?_⟩
    rcases c2 with c2 | ⟨g, cap, cur, e1, e2, e3, e4⟩
    · exact .inl c2
    · refine .inr ⟨g, cap, cur, e1, e2, ?_, e4⟩
      rw [Below.heap_setCell _ _ _ _ ?_]
      · exact e3
      · intro e
        subst e
        unfold BwBlock at hbk
        rw [hbk] at e3
        injection e3 with e3
        injection e3 with _ e3
        cases e3
  · intro g l c x y T fz hx
    rw [Below.heap_setCell _ _ _ _ (Ne.symm a9)] at hx
    exact hoff g l c x y T fz hx
  · have := hfr.1.size
    simp [World.setCell]
    omega
  · intro v hv
    rcases List.mem_append.1 hv with hv | hv
    · exact a11 v hv
    · exact a12 v hv

theorem BwBlock.cells {w : World} {bw r b n : Nat} (hbk : BwBlock w bw r b n) : w.cell? ⟨bw, 0, none⟩ = some .nilIface ∧ w.cell? ⟨bw, 1, none⟩ = some (.slice (some ⟨r, 0, none⟩) 65536 65536) ∧ w.cell? ⟨bw, 2, none⟩ = some (.int .i64 n) ∧
    w.cell? ⟨bw, 3, none⟩ = some (.iface 43 (.pointer (some ⟨b, 0, none⟩))) ∧ w.frozen? ⟨bw, 2, none⟩ = false := by
  refine ⟨?_, ?_, ?_, ?_, Lib.frozen_of_heap hbk 2⟩ <;> (rw [Lib.cell_of_heap hbk]; rfl)

end Go.Proofs.Qxb6616758aFmt
