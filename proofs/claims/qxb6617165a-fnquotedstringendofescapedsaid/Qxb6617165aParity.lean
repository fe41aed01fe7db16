import Derived.Test.Qxb6617165aWalks
namespace Go.Proofs.Qxb6617165a
open Go.RowKit

set_option maxHeartbeats 800000 in
theorem pend_core (s : ByteArray) (w : World) (A : Int) (hA : Hid (A = pend (s.data.toList.drop 1) 1 0)) (hs : s.size ≤ 1000000) :
    Calls Try.prog 7 #[.string s] w fun e w' => e = .returned (.int .i64 A) ∧ w' = w := by
  go_enter Try.func7, Try.ntmps7
  go_wp2
  go_loop [3, 4, 5] (fun r i _ => ∃ k run : Nat, 1 ≤ k ∧ k ≤ s.size + 1 ∧ run ≤ k ∧ i = .int .i64 k ∧ r = .int .i64 run ∧ Hid (A = pend (s.data.toList.drop k) k run)) (fun _ i _ => s.size + 1 - (intOf i).toNat)
  case atStart => exact ⟨1, 0, Nat.le_refl _, by omega, by omega, rfl, rfl, hA⟩
  case round =>
    obtain ⟨k, run, hk1, hk2, hr, rfl, rfl, hq⟩ := hrel
    by_cases hlt : k < s.size
    · have hlen : s.data.toList.drop k = s[k] :: s.data.toList.drop (k + 1) := drop_cons s k hlt
      rw [hlen] at hq
      clear hlen hA
      by_cases h34 : (s[k].toNat : Int) = 34
      · have hb : ((s[k].toNat : Int) == 34) = true := by simpa using h34
        have hb2 : ((s[k].toNat : Int) == 92) = false := by simp; omega
        by_cases hev : run % 2 = 0
        · have R : Hid (A = (k : Int) + 1) := hq.out.trans (pend_quote _ _ _ _ (by omega) hev)
          have hm : (((run : Int) % 2) == 0) = true := by simp; omega
          clear hq hev h34
          go_wp2
          go_ret
          exact ⟨ret_int R.out.symm, rfl⟩
        · have R : Hid (A = pend (s.data.toList.drop (k + 1)) (k + 1) 0) := by
            have := hq.out.trans (pend_step _ _ _ _ (fun e => hev e.2) (bad_quote _ (by omega)))
            rw [if_neg (by omega)] at this
            exact this
          have hm : (((run : Int) % 2) == 0) = false := by simp; omega
          have p1 : 32 ≤ (s[k].toNat : Int) := by omega
          have p2 : (s[k].toNat : Int) ≤ 126 := by omega
          clear hq hev h34
          go_wp2
          go_round
          case rel => exact ⟨k + 1, 0, by omega, by omega, by omega, by go_num, rfl, R⟩
          case measure => simp [intOf]; omega
      · have hb : ((s[k].toNat : Int) == 34) = false := by simpa using h34
        have hn : ¬ (s[k].toNat = 34 ∧ run % 2 = 0) := by omega
        rcases (show (s[k].toNat : Int) < 32 ∨ (32 ≤ (s[k].toNat : Int) ∧ 126 < (s[k].toNat : Int)) ∨ (32 ≤ (s[k].toNat : Int) ∧ (s[k].toNat : Int) ≤ 126) by omega) with g | ⟨g1, g⟩ | ⟨g1, g⟩
        · have R : Hid (A = -1) := hq.out.trans (pend_bad _ _ _ _ hn ((bad_int _).2 (by omega)))
          clear hq hn h34
          go_wp2
          go_ret
          exact ⟨ret_int R.out.symm, rfl⟩
        · have R : Hid (A = -1) := hq.out.trans (pend_bad _ _ _ _ hn ((bad_int _).2 (by omega)))
          clear hq hn h34
          go_wp2
          go_ret
          exact ⟨ret_int R.out.symm, rfl⟩
        · have hok : bad s[k] = false := by rw [← Bool.not_eq_true, bad_int]; omega
          by_cases h92 : (s[k].toNat : Int) = 92
          · have hb2 : ((s[k].toNat : Int) == 92) = true := by simpa using h92
            have R : Hid (A = pend (s.data.toList.drop (k + 1)) (k + 1) (run + 1)) := by
              have := hq.out.trans (pend_step _ _ _ _ hn hok)
              rw [if_pos (by omega)] at this
              exact this
            clear hq hn h34 h92 hok
            go_wp2
            go_round
            case rel => exact ⟨k + 1, run + 1, by omega, by omega, by omega, by go_num, by go_num, R⟩
            case measure => simp [intOf]; omega
          · have hb2 : ((s[k].toNat : Int) == 92) = false := by simpa using h92
            have R : Hid (A = pend (s.data.toList.drop (k + 1)) (k + 1) 0) := by
              have := hq.out.trans (pend_step _ _ _ _ hn hok)
              rw [if_neg (by omega)] at this
              exact this
            clear hq hn h34 h92 hok
            go_wp2
            go_round
            case rel => exact ⟨k + 1, 0, by omega, by omega, by omega, by go_num, rfl, R⟩
            case measure => simp [intOf]; omega
    · have R : Hid (A = -1) := by
        refine hq.out.trans ?_
        rw [drop_end s k (by omega)]
        rfl
      clear hq hA
      go_wp2
      go_ret
      exact ⟨ret_int R.out.symm, rfl⟩

set_option maxHeartbeats 400000 in
theorem bytes_any (s : ByteArray) (w : World) :
    Calls Try.prog 5 #[.string s] w fun e w' => ∃ t, e = .returned (.bool t) ∧ w' = w := by
  go_enter Try.func5, Try.ntmps5
  go_wp2
  all_goals (go_ret; exact ⟨_, rfl, rfl⟩)

set_option maxHeartbeats 400000 in
theorem zz_any (s : ByteArray) (w : World) (A : Int) (hA : Hid (A = qend (s.data.toList.drop 1) 1)) (hs : s.size ≤ 1000000) :
    Calls Try.prog 6 #[.string s] w fun e w' => e = .returned (.int .i64 A) ∧ w' = w := by
  go_enter Try.func6, Try.ntmps6
  go_wp2_with fail
  refine (qend_core s _ A hA hs).mono ?_
  rintro e w' ⟨rfl, rfl⟩
  go_wp2
  go_ret
  exact ⟨rfl, rfl⟩

set_option maxHeartbeats 400000 in
/-- THE WALK: whatever the string: true. -/
theorem parity_walk (s : ByteArray) (w : World) :
    Calls Try.prog 3 #[.string s] w fun e w' => e = .returned (.bool true) ∧ Grown w w' := by
  by_cases hs : s.size ≤ 65536
  · obtain ⟨A, hA⟩ : ∃ A, Hid (A = qend (s.data.toList.drop 1) 1) := ⟨_, rfl⟩
    have hP : Hid (A = pend (s.data.toList.drop 1) 1 0) := hA.out.trans (pend_eq _ _).symm
    go_enter Try.func3, Try.ntmps3
    go_wp2_with fail
    refine (bytes_any s _).mono ?_
    rintro e w' ⟨t, rfl, rfl⟩
    cases t
    · go_wp2_with fail
      go_ret
      exact ⟨rfl, Grown.refl _⟩
    go_wp2_with fail
    refine (zz_any s _ A hA (by omega)).mono ?_
    rintro e w' ⟨rfl, rfl⟩
    go_wp2_with fail
    refine (pend_core s _ A hP (by omega)).mono ?_
    rintro e w' ⟨rfl, rfl⟩
    go_wp2_with fail
    go_ret
    exact ⟨rfl, Grown.refl _⟩
  · go_enter Try.func3, Try.ntmps3
    go_wp2_with fail
    refine (bytes_any s _).mono ?_
    rintro e w' ⟨t, rfl, rfl⟩
    cases t
    all_goals (go_wp2_with fail; go_ret; exact ⟨rfl, Grown.refl _⟩)

end Go.Proofs.Qxb6617165a
