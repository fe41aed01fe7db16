import Derived.Test.Qxb6616758aFmtPut
namespace Go.Proofs.Qxb6616758aFmt
open Go.RowKit Go.Stop

/-- How many bytes are pending, as the writer's block says. -/
def pend (bw : Nat) (w : World) : Nat := (w.cell? ⟨bw, 2, none⟩).elim 0 (fun v => (intOf v).toNat)

theorem pend_of {bw r b n : Nat} {w : World} (h : BwBlock w bw r b n) : pend bw w = n := by
  unfold pend
  rw [h.cells.2.2.1]
  simp [intOf]

theorem mark_heap {bw r b n : Nat} {w : World} (h : BwBlock w bw r b n) : (w.setCell ⟨bw, 2, none⟩ (.int .i64 n)).heap = w.heap := by
  apply Array.ext_getElem?
  intro i
  by_cases e : i = bw
  · subst e
    rw [heap_setCell_same _ i 2 _ 89 _ h]
    exact h.symm
  · exact Below.heap_setCell _ _ _ _ e

theorem Begun.same {b : Nat} {fl : List Value} {w w' : World} (h : Begun b fl w) (hh : w'.heap = w.heap) : Begun b fl w' := by
  unfold Begun at *
  rw [hh]
  exact h

set_option maxHeartbeats 1600000 in
set_option maxRecDepth 100000 in
/-- Write: either p fits, or the row is full. -/
theorem bww_any (B bw r b m c : Nat) (a : Addr) (fl pd cs : List Value) (w : World) (h : BW B bw r b fl pd w) (hbg : Begun b fl w) (hm : cs.length = m) (hm1 : 1 ≤ m) (hm2 : m ≤ 65536) (h1 : ∀ v ∈ cs, v.oneCell' = true)
    (hsrc : ∀ wr, Fr B bw b w wr → ∀ j v, cs[j]? = some v → wr.cell? (a.add j) = some v) (hcase : pd.length + m ≤ 65536 ∨ pd.length = 65536) (hlim : fl.length ≤ 8589934592) :
    Calls Tryf.prog 27 #[.pointer (some ⟨bw, 0, none⟩), .slice (some a) m c] w fun e w' => e = .returned (.tuple #[.int .i64 m, .nilIface]) ∧ Fr B bw b w w' ∧
      ∃ fl' pd', BW B bw r b fl' pd' w' ∧ Begun b fl' w' ∧ ((fl' = fl ∧ pd' = pd ++ cs) ∨ (fl' = fl ++ pd ∧ pd' = cs ∧ pd.length = 65536)) := by
  go_enter Tryf.func27, Tryf.ntmps27
  go_wp2_with fail
  go_loopw [4, 1, 6] (fun nn p _ wr => nn = .int .i64 0 ∧ p = .slice (some a) m c ∧ Fr B bw b w wr ∧ ∃ fl' pd', BW B bw r b fl' pd' wr ∧ Begun b fl' wr ∧ ((fl' = fl ∧ pd' = pd) ∨ (fl' = fl ++ pd ∧ pd' = [] ∧ pd.length = 65536))) (fun _ _ _ wr => pend bw wr)
  case atStart => exact ⟨rfl, rfl, Fr.refl _ _ _ _, fl, pd, h, hbg, .inl ⟨rfl, rfl⟩⟩
  case round =>
    obtain ⟨rfl, rfl, hfr, fl', pd', h', hbg', hwh⟩ := hrel
    obtain ⟨n, hn⟩ : ∃ n, pd'.length = n := ⟨_, rfl⟩
    have hbk0 := h'.blk
    have hroom := h'.room
    rw [hn] at hbk0 hroom
    clear h hbg
    by_cases hlt : n + m ≤ 65536
    · have hne : ¬ (65536 = n) := by omega
      go_wp2_with fail
      refine (avail_any bw r b n _ hbk0 (by omega)).mono ?_
      rintro e w1 ⟨rfl, k, hw1⟩
      have h1' : BW B bw r b fl' pd' w1 := h'.same (by rw [hw1]; rfl)
      have hbg1 : Begun b fl' w1 := by rw [hw1]; exact hbg'
      have hfr1 : Fr B bw b w w1 := by rw [hw1]; exact hfr.drewN k
      obtain ⟨w2, hcp, hbk2, hend⟩ := put_row (w := w1.drew) (c := c) (h1'.same rfl) hm (by rw [hn]; exact hlt) h1 (hsrc _ hfr1.drew)
      have hbk1 := h1'.blk
      rw [hn] at hcp hbk1 hbk2 hend
      obtain ⟨c0, c1, c2, c3, f2⟩ := hbk1.cells
      obtain ⟨d0, d1, d2, d3, g2⟩ := hbk2.cells
      have hge : ¬ ((65536 - n : Nat) : Int) < (m : Int) := by omega
      have HE : Hid (∀ z : Int, z = ((n + m : Nat) : Int) → BW B bw r b fl' (pd' ++ cs) (w2.setCell ⟨bw, 2, none⟩ (.int .i64 z)) ∧ Fr B bw b w1.drew (w2.setCell ⟨bw, 2, none⟩ (.int .i64 z)) ∧ (Begun b fl' w1.drew → Begun b fl' (w2.setCell ⟨bw, 2, none⟩ (.int .i64 z)))) := hend
      have HW : Hid ((fl' = fl ∧ pd' ++ cs = pd ++ cs) ∨ (fl' = fl ++ pd ∧ pd' ++ cs = cs ∧ pd.length = 65536)) := by
        rcases hwh with ⟨e1, e2⟩ | ⟨e1, e2, e3⟩
        · exact .inl ⟨e1, by rw [e2]⟩
        · exact .inr ⟨e1, by rw [e2]; rfl, e3⟩
      clear hend hw1 hbk0 hbk1 hbk2 hwh hcase
      go_wp2_with fail
      go_region
      all_goals (
        go_wp2_with fail
        go_ret2
        exact ⟨by simp, hfr1.drew.trans (HE.out _ (by omega)).2.1, fl', pd' ++ cs, (HE.out _ (by omega)).1, (HE.out _ (by omega)).2.2 hbg1, HW.out⟩)
    · have hfull : n = 65536 := by
        rcases hwh with ⟨_, e2⟩ | ⟨_, e2, _⟩
        · rw [← e2, hn] at hcase
          omega
        · rw [e2] at hn
          simp at hn
          omega
      subst hfull
      have hfl : fl' = fl ∧ pd' = pd := by
        rcases hwh with e | ⟨_, e2, _⟩
        · exact e
        · rw [e2] at hn
          simp at hn
      obtain ⟨rfl, rfl⟩ := hfl
      have hpe := pend_of hbk0
      go_wp2_with fail
      refine (avail_any bw r b 65536 _ hbk0 (by omega)).mono ?_
      rintro e w1 ⟨rfl, k, hw1⟩
      have h1' : BW B bw r b fl' pd' w1 := h'.same (by rw [hw1]; rfl)
      have hbg1 : Begun b fl' w1 := by rw [hw1]; exact hbg'
      have hfr1 : Fr B bw b w w1 := by rw [hw1]; exact hfr.drewN k
      have hbk1 := h1'.blk
      rw [hn] at hbk1
      obtain ⟨c0, c1, c2, c3, f2⟩ := hbk1.cells
      have hcp : ∀ d dLen dCap ty W, Nat.min m dLen = 0 → (Builtin.copy_ #[24, 24] ty #[.slice d dLen dCap, .slice (some a) m c]).run Tryf.prog W = .ok (goInt 0) W := fun d dLen dCap ty W hz => run_copy_none W 24 24 ty 5 d (some a) dLen dCap m c Tryf.underlying24 hinfo5 hz
      have hlt2 : (0 : Int) < (m : Int) := by omega
      obtain ⟨wS, hwS⟩ : ∃ wS, w1.drew.setCell ⟨bw, 2, none⟩ (.int .i64 65536) = wS := ⟨_, rfl⟩
      have hhp : wS.heap = w1.heap := by rw [← hwS]; exact mark_heap (w := w1.drew) (n := 65536) hbk1
      have hS : BW B bw r b fl' pd' wS := h1'.same hhp
      have hbgS : Begun b fl' wS := hbg1.same hhp
      have hfrS : Fr B bw b w wS := by rw [← hwS]; exact hfr1.drew.set h'.hBw 2 _
      clear hw1 hwh hcase hhp
      go_wp2_with fail
      refine (buffered_any bw r b 65536 _ hbk1).mono ?_
      rintro e w1' ⟨rfl, rfl⟩
      go_wp2_with fail
      go_region
      all_goals (
        go_wp2_with fail
        refine (flush_some B bw r b fl' pd' wS hS hbgS (by intro _; omega) (by omega) hlim).mono ?_
        rintro e w3 ⟨rfl, h3, hfr3⟩
        have hbg3 : Begun b (fl' ++ pd') w3 := .inr (by rw [List.length_append]; omega)
        have hp3 := pend_of h3.blk
        clear hS hbgS hbg1 h1' hcp
        go_wp2_with fail
        go_roundw
        case rel => exact ⟨rfl, by simp, hfrS.trans hfr3, fl' ++ pd', [], h3, hbg3, .inr ⟨rfl, rfl, hn⟩⟩
        case measure => rw [hpe]; rw [hp3]; simp)

end Go.Proofs.Qxb6616758aFmt
