import Derived.Test.Qxb6616758aFmtWin
namespace Go.Proofs.Qxb6616758aFmt
open Go.RowKit Go.Stop

set_option maxHeartbeats 800000 in
/-- 'zzHasAt' where the bytes do stand there: true. -/
theorem has_any (g n c : Nat) (L : List UInt8) (i : Int) (k : Nat) (s : ByteArray) (w : World) (hb : Bytes w ⟨g, 0, none⟩ L) (hn : L.length = n) (hi : i = (k : Int)) (hat : At L k s.data.toList) (hL : n ≤ 1000000000) :
    Calls Tryf.prog 8 #[.slice (some ⟨g, 0, none⟩) n c, .int .i64 i, .string s] w fun e w' => e = .returned (.bool true) ∧ ∃ q, w' = w.drewN q := by
  subst hi
  have hle := hat.le
  rw [size_list, hn] at hle
  have hcell : ∀ j, (hj : j < s.size) → w.cell? ⟨g, k + j, none⟩ = some (.int .u8 (s[j].toNat : Int)) := by
    intro j hj
    have h1 := hat.get j (by rw [size_list]; exact hj)
    have h2 : s.data.toList[j]? = some s[j] := by rw [List.getElem?_eq_getElem (by rw [size_list]; exact hj)]; rfl
    rw [h2] at h1
    have := hb (k + j) _ h1
    rw [add_at, Nat.zero_add] at this
    exact this
  have HC : Hid (∀ j, (hj : j < s.size) → w.cell? ⟨g, k + j, none⟩ = some (.int .u8 (s[j].toNat : Int))) := hcell
  clear hcell hat hb hn
  go_enter Tryf.func8, Tryf.ntmps8
  go_wp2
  go_loopw [7] (fun j wr => ∃ m : Nat, m ≤ s.size ∧ j = .int .i64 m ∧ ∃ q, wr = w.drewN q) (fun j _ => s.size - (intOf j).toNat)
  case atStart => exact ⟨0, Nat.zero_le _, rfl, 0, rfl⟩
  case round =>
    obtain ⟨m, hm, rfl, q, rfl⟩ := hrel
    by_cases hlt : m < s.size
    · have hc := HC.out m hlt
      have hl1 : (m : Int) < (s.size : Int) := by omega
      have hl2 : ((k : Int) + (m : Int)) < (n : Int) := by omega
      go_wp2
      go_quiet (fail)
      go_wp2
      go_roundw
      case rel => exact ⟨m + 1, by omega, by go_num, _, rfl⟩
      case measure => simp [intOf]; omega
    · go_wp2
      go_ret
      exact ⟨rfl, _, rfl⟩

end Go.Proofs.Qxb6616758aFmt
