import Derived.Test.Qxb6616758aFmtWord
namespace Go.Proofs.Qxb6616758aFmt
open Go.RowKit Go.Stop

/-- An invalid operation: a NaN off the tape. -/
theorem run_sub_nan (u : Nat) (h : FloatKind.f32.format.sub u u = none) (W : World) : ∃ z, (binOp .sub 35 (.float .f32 u) (.float .f32 u)).run Tryf.prog W = .ok (.float .f32 z) W.drew ∧ FloatKind.f32.format.order z 0 = none := by
  refine ⟨(Question.nanBits .f32 u u).cut (W.tape W.drawn (.nanBits .f32 u u)), ?_, nan_tape _ u u⟩
  simp [binOp, Op.floatArith, h, Question.forced]

set_option maxHeartbeats 1600000 in
set_option maxRecDepth 100000 in
theorem word_inf (g o c : Nat) (b0 b1 b2 b3 u : Nat) (s : Bool) (w : World) (h : Four w g o u b0 b1 b2 b3) (hur : u = Ieee.single.word s (255 * 2 ^ 23)) :
    Calls Tryf.prog 12 #[.slice (some ⟨g, o, none⟩) 4 c, .float .f32 u] w fun e w' => e = .returned (.bool true) ∧ ∃ q, w' = w.drewN q := by
  obtain ⟨h0, h1, h2, h3, hu, c0, c1, c2, c3⟩ := h
  have hor := or4 h0 h1 h2 h3 hu
  obtain ⟨i1, i2, i3⟩ := inf_facts s
  rw [← hur] at i1 i2 i3
  have f1 : FloatKind.f32.format.order u u = some .eq := i1
  have f5 : (FloatKind.f32.format.order u 0 == some .lt) = s := i3
  obtain ⟨hu4, hsg, hex, hfr⟩ := fields s (255 * 2 ^ 23) u (by decide) hur
  have hex' : bits .and .u32 ((u : Int) / 8388608) 255 = 255 := by rw [hex]; rfl
  have hfr' : bits .and .u32 (u : Int) 8388607 = 0 := by rw [hfr]; rfl
  obtain ⟨sg, hsg2⟩ : ∃ sg, sg = s.toNat := ⟨_, rfl⟩
  rw [← hsg2] at hsg
  have hsb : ((sg : Int) == 1) = s := by rw [hsg2]; cases s <;> rfl
  have HSG := Lib.hid hsg2
  clear hsg2 hu hur hex hfr i1 i3
  have f2 := run_sub_nan u i2
  clear i2
  go_enter Tryf.func12, Tryf.ntmps12
  go_wp2_with fail
  go_quiet (fail)
  clear hor c0 c1 c2 c3
  obtain ⟨z, hz1, hz2⟩ := f2 (w.drewN nq)
  clear f2
  cases s
  all_goals (
    go_wp2_with fail
    go_ret
    exact ⟨rfl, nq + 1, rfl⟩)

set_option maxHeartbeats 1600000 in
set_option maxRecDepth 100000 in
theorem word_nan (g o c : Nat) (b0 b1 b2 b3 u : Nat) (s : Bool) (r : Nat) (w : World) (h : Four w g o u b0 b1 b2 b3) (hr1 : 255 * 2 ^ 23 < r) (hr2 : r < 2 ^ 31) (hur : u = Ieee.single.word s r) :
    Calls Tryf.prog 12 #[.slice (some ⟨g, o, none⟩) 4 c, .float .f32 u] w fun e w' => e = .returned (.bool true) ∧ ∃ q, w' = w.drewN q := by
  obtain ⟨h0, h1, h2, h3, hu, c0, c1, c2, c3⟩ := h
  have hor := or4 h0 h1 h2 h3 hu
  have f1 : FloatKind.f32.format.order u u = none := by
    have := ord_nan s r hr1 hr2 u
    rw [← hur] at this
    exact this
  obtain ⟨hu4, hsg, hex, hfr⟩ := fields s r u hr2 hur
  have hex' : bits .and .u32 ((u : Int) / 8388608) 255 = 255 := by rw [hex]; omega
  obtain ⟨m, hm⟩ : ∃ m, m = r % 8388608 := ⟨_, rfl⟩
  rw [← hm] at hfr
  have hmb : ((m : Int) == 0) = false := beq_eq_false_iff_ne.2 (by omega)
  clear hu hur hex hr1 hr2 hm
  go_enter Tryf.func12, Tryf.ntmps12
  go_wp2_with fail
  go_quiet (fail)
  clear hor c0 c1 c2 c3
  go_wp2_with fail
  go_ret
  refine ⟨?_, _, rfl⟩
  show Ending.returned (.bool ((m : Int) != 0)) = _
  rw [bne, hmb]
  rfl

/-- zzWordIs: the four bytes of x's bits mean x, whatever x is. -/
theorem word_any (g o c : Nat) (b0 b1 b2 b3 u : Nat) (w : World) (h : Four w g o u b0 b1 b2 b3) :
    Calls Tryf.prog 12 #[.slice (some ⟨g, o, none⟩) 4 c, .float .f32 u] w fun e w' => e = .returned (.bool true) ∧ ∃ q, w' = w.drewN q := by
  have hu4 : u < 4294967296 := by
    obtain ⟨h0, h1, h2, h3, hu, _⟩ := h
    omega
  obtain ⟨s, r, hr, hur⟩ : ∃ s r, r < 2 ^ 31 ∧ u = Ieee.single.word s r := by
    by_cases hs : u < 2 ^ 31
    · exact ⟨false, u, hs, rfl⟩
    · refine ⟨true, u - 2 ^ 31, by omega, ?_⟩
      rw [Ieee.Format.word, if_pos rfl, sgl_sign]
      omega
  rcases Nat.lt_trichotomy r (255 * 2 ^ 23) with h1 | h1 | h1
  · exact word_fin g o c b0 b1 b2 b3 u s r w h h1 hur
  · subst h1
    exact word_inf g o c b0 b1 b2 b3 u s w h hur
  · exact word_nan g o c b0 b1 b2 b3 u s r w h h1 hr hur

end Go.Proofs.Qxb6616758aFmt
