import Derived.Test.Qxb6616399aConn
import Derived.Deep.QuietTactic
import Derived.BigQuiet
namespace Go.Proofs.Qxb6616399a
open Go.RowKit Go.Conc

set_option maxHeartbeats 400000 in
theorem names_any (b : Nat) (n0 n1 : ByteArray) (w : World) (c1 : w.cell? ⟨b, 1, none⟩ = some (.string n0)) (c2 : w.cell? ⟨b, 2, none⟩ = some (.string n1)) :
    Calls Try.prog 16 #[.pointer (some ⟨b, 0, none⟩)] w fun e w' => e = .returned (.tuple #[.string n0, .string n1]) ∧ ∃ n, w' = w.drewN n := by
  go_enter Try.func16, Try.ntmps16
  go_wp2
  go_quiet (fail)
  go_wp2
  go_ret2
  exact ⟨rfl, _, rfl⟩

set_option maxHeartbeats 400000 in
theorem flow0_any (b : Nat) (w : World) (c1 : w.cell? ⟨b, 23, none⟩ = some (.slice none 0 0)) (c2 : w.cell? ⟨b, 24, none⟩ = some (.int .i64 0)) (c3 : w.cell? ⟨b, 25, none⟩ = some (.bool false)) :
    Calls Try.prog 17 #[.pointer (some ⟨b, 0, none⟩), .int .i64 0] w fun e w' => e = .returned (.tuple #[.slice none 0 0, .int .i64 0, .bool false]) ∧ ∃ n, w' = w.drewN n := by
  go_enter Try.func17, Try.ntmps17
  go_wp2
  go_quiet (fail)
  go_wp2
  go_ret3
  exact ⟨rfl, _, rfl⟩

set_option maxHeartbeats 400000 in
theorem flow1_any (b : Nat) (w : World) (c1 : w.cell? ⟨b, 26, none⟩ = some (.slice none 0 0)) (c2 : w.cell? ⟨b, 27, none⟩ = some (.int .i64 0)) (c3 : w.cell? ⟨b, 28, none⟩ = some (.bool false)) :
    Calls Try.prog 17 #[.pointer (some ⟨b, 0, none⟩), .int .i64 1] w fun e w' => e = .returned (.tuple #[.slice none 0 0, .int .i64 0, .bool false]) ∧ ∃ n, w' = w.drewN n := by
  go_enter Try.func17, Try.ntmps17
  go_wp2
  go_quiet (fail)
  go_wp2
  go_ret3
  exact ⟨rfl, _, rfl⟩

set_option maxHeartbeats 800000 in
theorem reset_any (b c : Nat) (m : Int) (n0 n1 : ByteArray) (cut : Bool) (w : World) (h : ConnAt w b c m n0 n1 (.slice none 0 0) (.int .i64 0) (.bool false) (.slice none 0 0) (.int .i64 0) (.bool false) cut true) :
    Calls Try.prog 11 #[.pointer (some ⟨b, 0, none⟩), .string n0, .string n1, .bool cut] w fun e w' => e = .returned (.bool true) ∧ ∃ n, w' = w.drewN n := by
  have c1 : w.cell? ⟨b, 1, none⟩ = some (.string n0) := h.cell 1
  have c2 : w.cell? ⟨b, 2, none⟩ = some (.string n1) := h.cell 2
  have c23 : w.cell? ⟨b, 23, none⟩ = some (.slice none 0 0) := h.cell 23
  have c24 : w.cell? ⟨b, 24, none⟩ = some (.int .i64 0) := h.cell 24
  have c25 : w.cell? ⟨b, 25, none⟩ = some (.bool false) := h.cell 25
  have c26 : w.cell? ⟨b, 26, none⟩ = some (.slice none 0 0) := h.cell 26
  have c27 : w.cell? ⟨b, 27, none⟩ = some (.int .i64 0) := h.cell 27
  have c28 : w.cell? ⟨b, 28, none⟩ = some (.bool false) := h.cell 28
  have c29 : w.cell? ⟨b, 29, none⟩ = some (.bool cut) := h.cell 29
  have c30 : w.cell? ⟨b, 30, none⟩ = some (.bool true) := h.cell 30
  have q24 : ∀ (w : World), (binOp .neq 24 (.slice none 0 0) (.slice none 0 0)).run Try.prog w = .ok (.bool false) w := fun w => run_neq_slice_nil_any w _ _ none 0 0 0 0 Try.underlying24
  clear h
  go_enter Try.func11, Try.ntmps11
  go_wp2_with (first
    | (go_at_call 16; refine (names_any b n0 n1 _ (by simpa using c1) (by simpa using c2)).mono ?_; rintro e w' ⟨rfl, n, rfl⟩)
    | (go_at_call 14; go_in)
    | (go_at_call 15; go_in))
  go_loopw [11, 12, 13, 14] (fun i _ _ _ wr => (i = .int .i64 0 ∨ i = .int .i64 1 ∨ i = .int .i64 2) ∧ ∃ n, wr = w.drewN n) (fun i _ _ _ _ => 2 - (intOf i).toNat)
  case atStart => exact ⟨.inl rfl, _, rfl⟩
  case round =>
    obtain ⟨hi, n2, rfl⟩ := hrel
    rcases hi with rfl | rfl | rfl
    · go_wp2_with (go_at_call 17; refine (flow0_any b _ (by simpa using c23) (by simpa using c24) (by simpa using c25)).mono ?_; rintro e w' ⟨rfl, n3, rfl⟩)
      go_roundw
      case rel => exact ⟨.inr (.inl rfl), _, rfl⟩
      case measure => simp [intOf]
    · go_wp2_with (go_at_call 17; refine (flow1_any b _ (by simpa using c26) (by simpa using c27) (by simpa using c28)).mono ?_; rintro e w' ⟨rfl, n3, rfl⟩)
      go_roundw
      case rel => exact ⟨.inr (.inr rfl), _, rfl⟩
      case measure => simp [intOf]
    · go_wp2
      go_ret
      exact ⟨rfl, _, rfl⟩

end Go.Proofs.Qxb6616399a
