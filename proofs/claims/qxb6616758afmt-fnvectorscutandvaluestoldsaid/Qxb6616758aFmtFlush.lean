import Derived.Test.Qxb6616758aFmtBuf
namespace Go.Proofs.Qxb6616758aFmt
open Go.RowKit Go.Stop

set_option maxHeartbeats 1600000 in
set_option maxRecDepth 100000 in
/-- Flush, something pending. -/
theorem flush_some (B bw r b : Nat) (fl pd : List Value) (w : World) (h : BW B bw r b fl pd w) (hbg : Begun b fl w) (h64 : fl = [] → 64 < pd.length) (hpos : 1 ≤ pd.length) (hlim : fl.length ≤ 8589934592) :
    Calls Tryf.prog 28 #[.pointer (some ⟨bw, 0, none⟩)] w fun e w' => e = .returned .nilIface ∧ BW B bw r b (fl ++ pd) [] w' ∧ Fr B bw b w w' := by
  obtain ⟨n, hn⟩ : ∃ n, pd.length = n := ⟨_, rfl⟩
  have hat := flush_at w h hbg h64 hpos hlim
  have hbk := h.blk
  have hroom := h.room
  rw [hn] at hat hbk hpos hroom
  obtain ⟨c0, c1, c2, c3, f2⟩ := hbk.cells
  have hm43 := meth43w
  have hn43 := nil43w
  have hnz : ((n : Int) == 0) = false := beq_eq_false_iff_ne.2 (by omega)
  go_enter Tryf.func28, Tryf.ntmps28
  go_wp2_with fail
  go_region_with (go_at_call 74; refine hat.mono ?_; rintro e w1 ⟨rfl, hI, hoff, hrow, hbk1, hfr⟩)
  all_goals (
    have hend := flush_end h hI hoff hrow hbk1 hfr
    obtain ⟨d0, d1, d2, d3, g2⟩ := hbk1.cells
    go_wp2_with fail
    go_ret
    exact ⟨rfl, hend.1, hend.2⟩)

set_option maxHeartbeats 800000 in
set_option maxRecDepth 100000 in
/-- Flush, nothing pending. -/
theorem flush_none (bw r b : Nat) (w : World) (h : BwBlock w bw r b 0) :
    Calls Tryf.prog 28 #[.pointer (some ⟨bw, 0, none⟩)] w fun e w' => e = .returned .nilIface ∧ w' = w := by
  obtain ⟨c0, c1, c2, c3, f2⟩ := h.cells
  go_enter Tryf.func28, Tryf.ntmps28
  go_wp2_with fail
  go_ret
  exact ⟨rfl, rfl⟩

end Go.Proofs.Qxb6616758aFmt
