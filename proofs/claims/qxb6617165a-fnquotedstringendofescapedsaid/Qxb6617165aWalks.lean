import Derived.Test.Qxb6617165aRows
import Derived.Test.Qxb6617165aPlain
import Derived.WalkKit
import Derived.WalkSpells
import Derived.WalkLawsBesides
namespace Go.Proofs.Qxb6617165a
open Go.RowKit

theorem ret_int {k : IntKind} {a b : Int} (h : a = b) : Ending.returned (.int k a) = .returned (.int k b) := by rw [h]

theorem drop_cons (s : ByteArray) (k : Nat) (h : k < s.size) : s.data.toList.drop k = s[k] :: s.data.toList.drop (k + 1) := by
  rw [List.drop_eq_getElem_cons (by simpa using h)]; rfl
theorem drop_end (s : ByteArray) (k : Nat) (h : s.size ≤ k) : s.data.toList.drop k = [] := List.drop_eq_nil_of_le (by simpa using h)

theorem bad_int (c : UInt8) : bad c = true ↔ (c.toNat : Int) < 32 ∨ 126 < (c.toNat : Int) := by
  simp only [bad, Bool.or_eq_true, decide_eq_true_eq]
  omega

set_option maxHeartbeats 800000 in
theorem qend_core (s : ByteArray) (w : World) (A : Int) (hA : Hid (A = qend (s.data.toList.drop 1) 1)) (hs : s.size ≤ 1000000) :
    Calls Try.prog 9 #[.string s] w fun e w' => e = .returned (.int .i64 A) ∧ w' = w := by
  go_enter Try.func9, Try.ntmps9
  go_wp2
  go_loop [3, 4, 14, 19, 40] (fun i _ _ _ _ => ∃ k : Nat, 1 ≤ k ∧ k ≤ s.size + 1 ∧ i = .int .i64 k ∧ Hid (A = qend (s.data.toList.drop k) k)) (fun i _ _ _ _ => s.size + 1 - (intOf i).toNat)
  case atStart => exact ⟨1, Nat.le_refl _, by omega, rfl, hA⟩
  case round =>
    obtain ⟨k, hk1, hk2, rfl, hq⟩ := hrel
    by_cases hlt : k < s.size
    · have hc : (s[k].toNat : Int) = 34 ∨ (s[k].toNat : Int) = 92 ∨ ((s[k].toNat : Int) ≠ 34 ∧ (s[k].toNat : Int) ≠ 92 ∧ (s[k].toNat : Int) < 32) ∨ ((s[k].toNat : Int) ≠ 34 ∧ (s[k].toNat : Int) ≠ 92 ∧ 32 ≤ (s[k].toNat : Int) ∧ 126 < (s[k].toNat : Int)) ∨ ((s[k].toNat : Int) ≠ 34 ∧ (s[k].toNat : Int) ≠ 92 ∧ 32 ≤ (s[k].toNat : Int) ∧ (s[k].toNat : Int) ≤ 126) := by omega
      rcases hc with h | h | ⟨h34, h92, h⟩ | ⟨h34, h92, h1, h⟩ | ⟨h34, h92, h1, h2⟩
      · have hb : ((s[k].toNat : Int) == 34) = true := by simpa using h
        have R : Hid (A = (k : Int) + 1) := by
          refine hq.out.trans ?_
          rw [drop_cons s k hlt]
          exact qend_quote _ _ _ (by omega)
        clear h hq hA
        go_wp2
        go_ret
        exact ⟨ret_int R.out.symm, rfl⟩
      · have hb : ((s[k].toNat : Int) == 34) = false := by simp; omega
        have hb2 : ((s[k].toNat : Int) == 92) = true := by simpa using h
        by_cases hlt2 : k + 1 < s.size
        · have hend : ((k : Int) + 1 == (s.size : Int)) = false := by simp; omega
          have hc2 : (s[k+1].toNat : Int) < 32 ∨ (32 ≤ (s[k+1].toNat : Int) ∧ 126 < (s[k+1].toNat : Int)) ∨ (32 ≤ (s[k+1].toNat : Int) ∧ (s[k+1].toNat : Int) ≤ 126) := by omega
          rcases hc2 with g | ⟨g1, g⟩ | ⟨g1, g⟩
          · have R : Hid (A = -1) := by
              refine hq.out.trans ?_
              rw [drop_cons s k hlt, drop_cons s (k + 1) hlt2]
              exact qend_slash_bad _ _ _ _ (by omega) ((bad_int _).2 (by omega))
            clear h hq hA
            go_wp2
            go_ret
            exact ⟨ret_int R.out.symm, rfl⟩
          · have R : Hid (A = -1) := by
              refine hq.out.trans ?_
              rw [drop_cons s k hlt, drop_cons s (k + 1) hlt2]
              exact qend_slash_bad _ _ _ _ (by omega) ((bad_int _).2 (by omega))
            clear h hq hA
            go_wp2
            go_ret
            exact ⟨ret_int R.out.symm, rfl⟩
          · have R : Hid (A = qend (s.data.toList.drop (k + 2)) (k + 2)) := by
              refine hq.out.trans ?_
              rw [drop_cons s k hlt, drop_cons s (k + 1) hlt2]
              exact qend_slash _ _ _ _ (by omega) (by rw [← Bool.not_eq_true, bad_int]; omega)
            clear h hq hA
            go_wp2
            go_round
            case rel => exact ⟨k + 2, by omega, by omega, by go_num, R⟩
            case measure => simp [intOf]; omega
        · have R : Hid (A = -1) := by
            refine hq.out.trans ?_
            rw [drop_cons s k hlt, drop_end s (k + 1) (by omega)]
            exact qend_slash_end _ _ (by omega)
          have hend : ((k : Int) + 1 == (s.size : Int)) = true := by simp; omega
          clear h hq hA
          go_wp2
          go_ret
          exact ⟨ret_int R.out.symm, rfl⟩
      · have hb : ((s[k].toNat : Int) == 34) = false := by simpa using h34
        have hb2 : ((s[k].toNat : Int) == 92) = false := by simpa using h92
        have R : Hid (A = -1) := by
          refine hq.out.trans ?_
          rw [drop_cons s k hlt]
          exact qend_bad _ _ _ (by omega) (by omega) ((bad_int _).2 (by omega))
        clear h34 h92 hq hA
        go_wp2
        go_ret
        exact ⟨ret_int R.out.symm, rfl⟩
      · have hb : ((s[k].toNat : Int) == 34) = false := by simpa using h34
        have hb2 : ((s[k].toNat : Int) == 92) = false := by simpa using h92
        have R : Hid (A = -1) := by
          refine hq.out.trans ?_
          rw [drop_cons s k hlt]
          exact qend_bad _ _ _ (by omega) (by omega) ((bad_int _).2 (by omega))
        clear h34 h92 hq hA
        go_wp2
        go_ret
        exact ⟨ret_int R.out.symm, rfl⟩
      · have hb : ((s[k].toNat : Int) == 34) = false := by simpa using h34
        have hb2 : ((s[k].toNat : Int) == 92) = false := by simpa using h92
        have R : Hid (A = qend (s.data.toList.drop (k + 1)) (k + 1)) := by
          refine hq.out.trans ?_
          rw [drop_cons s k hlt]
          exact qend_plain _ _ _ (by omega) (by omega) (by rw [← Bool.not_eq_true, bad_int]; omega)
        clear h34 h92 hq hA
        go_wp2
        go_round
        case rel => exact ⟨k + 1, by omega, by omega, by go_num, R⟩
        case measure => simp [intOf]; omega
    · have R : Hid (A = -1) := by
        refine hq.out.trans ?_
        rw [drop_end s k (by omega)]
        rfl
      clear hq hA
      go_wp2
      go_ret
      exact ⟨ret_int R.out.symm, rfl⟩

theorem qend_any (s : ByteArray) (w : World) (hs : s.size ≤ 1000000) :
    Calls Try.prog 9 #[.string s] w fun e w' => e = .returned (.int .i64 (qend (s.data.toList.drop 1) 1)) ∧ w' = w := qend_core s w _ rfl hs

end Go.Proofs.Qxb6617165a
