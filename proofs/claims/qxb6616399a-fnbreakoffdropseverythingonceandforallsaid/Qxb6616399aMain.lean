import Derived.Test.Qxb6616399aReset
namespace Go.Proofs.Qxb6616399a
open Go.RowKit Go.Conc

set_option maxHeartbeats 800000 in
theorem bytes_any (a0 a1 : ByteArray) (a2 : Option Addr) (len2 cap2 : Nat) (a3 : Int) (a4 : Bool) (a5 : Option Addr) (len5 cap5 : Nat) (a6 : Int) (a7 : Bool) (a8 : Bool) (w : World) :
    Calls Try.prog 7 #[.string a0, .string a1, .slice a2 len2 cap2, .int .i64 a3, .bool a4, .slice a5 len5 cap5, .int .i64 a6, .bool a7, .bool a8] w fun e w' => ∃ t, e = .returned (.bool t) ∧ w' = w := by
  go_enter Try.func7, Try.ntmps7
  go_wp2
  all_goals (go_ret; exact ⟨_, rfl, rfl⟩)

set_option maxHeartbeats 800000 in
theorem walk_big (a0 a1 : ByteArray) (a2 : Option Addr) (len2 cap2 : Nat) (a3 : Int) (a4 : Bool) (a5 : Option Addr) (len5 cap5 : Nat) (a6 : Int) (a7 : Bool) (a8 : Bool) (w : World)
    (h : 262144 < a0.size ∨ (a0.size ≤ 262144 ∧ 262144 < a1.size) ∨ (a0.size ≤ 262144 ∧ a1.size ≤ 262144 ∧ 262144 < len2) ∨ (a0.size ≤ 262144 ∧ a1.size ≤ 262144 ∧ len2 ≤ 262144 ∧ 262144 < len5)) :
    Calls Try.prog 4 #[.string a0, .string a1, .slice a2 len2 cap2, .int .i64 a3, .bool a4, .slice a5 len5 cap5, .int .i64 a6, .bool a7, .bool a8] w fun e w' => e = .returned (.bool true) ∧ Below w.heap.size w w' := by
  rcases h with h1 | ⟨h1, h2⟩ | ⟨h1, h2, h3⟩ | ⟨h1, h2, h3, h4⟩
  all_goals
    go_enter Try.func4, Try.ntmps4
    go_wp2_with fail
    refine (bytes_any a0 a1 a2 len2 cap2 a3 a4 a5 len5 cap5 a6 a7 a8 _).mono ?_
    rintro e w' ⟨t, rfl, rfl⟩
    cases t <;> go_wp2_with fail
    all_goals (go_ret; exact ⟨rfl, Below.refl _ _⟩)

set_option maxHeartbeats 800000 in
theorem walk_off (a0 a1 : ByteArray) (a2 : Option Addr) (len2 cap2 : Nat) (a3 : Int) (a4 : Bool) (a5 : Option Addr) (len5 cap5 : Nat) (a6 : Int) (a7 : Bool) (a8 : Bool) (w : World)
    (s0 : a0.size ≤ 262144) (s1 : a1.size ≤ 262144) (s2 : len2 ≤ 262144) (s5 : len5 ≤ 262144)
    (h : a3 < 0 ∨ (0 ≤ a3 ∧ (len2 : Int) < a3) ∨ (0 ≤ a3 ∧ a3 ≤ len2 ∧ a6 < 0) ∨ (0 ≤ a3 ∧ a3 ≤ len2 ∧ 0 ≤ a6 ∧ (len5 : Int) < a6)) :
    Calls Try.prog 4 #[.string a0, .string a1, .slice a2 len2 cap2, .int .i64 a3, .bool a4, .slice a5 len5 cap5, .int .i64 a6, .bool a7, .bool a8] w fun e w' => e = .returned (.bool true) ∧ Below w.heap.size w w' := by
  rcases h with h1 | ⟨h1, h2⟩ | ⟨h1, h2, h3⟩ | ⟨h1, h2, h3, h4⟩
  all_goals
    go_enter Try.func4, Try.ntmps4
    go_wp2_with fail
    refine (bytes_any a0 a1 a2 len2 cap2 a3 a4 a5 len5 cap5 a6 a7 a8 _).mono ?_
    rintro e w' ⟨t, rfl, rfl⟩
    cases t <;> go_wp2_with fail
    all_goals (go_ret; exact ⟨rfl, Below.refl _ _⟩)

end Go.Proofs.Qxb6616399a
