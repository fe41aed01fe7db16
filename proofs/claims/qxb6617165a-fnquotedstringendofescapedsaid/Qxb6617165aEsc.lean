import Derived.Test.Qxb6617165aParity
import Derived.Laws.IdiomStrings
namespace Go.Proofs.Qxb6617165a
open Go.RowKit

theorem Try.info5 : (Try.prog.info? 5).map (fun i => (i.zero, i.size, i.bytes)) = some (some (.int .u8 0), 1, 1) := by kernel_rfl

/-- A byte as a cell. -/
def bv (c : UInt8) : Value := .int .u8 (c.toNat : Int)
theorem bv_one (l : List UInt8) : ∀ u ∈ l.map bv, u.oneCell' = true := by
  intro u hu
  obtain ⟨c, _, rfl⟩ := List.mem_map.1 hu
  rfl

theorem take_snoc (s : ByteArray) (k : Nat) (h : k < s.size) : s.data.toList.take (k + 1) = s.data.toList.take k ++ [s[k]] := by
  rw [List.take_succ_eq_append_getElem (by simpa using h)]; rfl

set_option maxHeartbeats 400000 in
theorem bytes2_any (s t : ByteArray) (w : World) :
    Calls Try.prog 8 #[.string s, .string t] w fun e w' => ∃ t, e = .returned (.bool t) ∧ w' = w := by
  go_enter Try.func8, Try.ntmps8
  go_wp2
  all_goals (go_ret; exact ⟨_, rfl, rfl⟩)

theorem xs_esc {xs : List Value} {l : List UInt8} {c : UInt8} (h : xs = (34 :: esc l).map bv) (hc : c.toNat = 34 ∨ c.toNat = 92) : xs ++ [.int .u8 92, .int .u8 (c.toNat : Int)] = (34 :: esc (l ++ [c])).map bv := by
  subst h
  rw [esc_append, esc, if_pos hc]
  simp [bv, esc]
theorem xs_plain {xs : List Value} {l : List UInt8} {c : UInt8} (h : xs = (34 :: esc l).map bv) (hc : ¬ (c.toNat = 34 ∨ c.toNat = 92)) : xs ++ [.int .u8 (c.toNat : Int)] = (34 :: esc (l ++ [c])).map bv := by
  subst h
  rw [esc_append, esc, if_neg hc]
  simp [bv, esc]
theorem pr_bad {l : List UInt8} {c : UInt8} (hb : bad c = true) : false = !anyBad (l ++ [c]) := by
  rw [anyBad_append]; simp [anyBad, hb]
theorem pr_ok {l : List UInt8} {c : UInt8} {pr : Bool} (h : pr = !anyBad l) (hb : bad c = false) : pr = !anyBad (l ++ [c]) := by
  rw [anyBad_append]; simp [anyBad, hb, h]
theorem one_u8 (n : Int) : ∀ u ∈ [Value.int .u8 n], u.oneCell' = true := by
  intro u hu
  simp at hu
  subst hu
  rfl

theorem xs_tail {xs : List Value} {l : List UInt8} (t : ByteArray) (k : Nat) (hlt : k < t.size) (h : xs = (34 :: (l ++ 34 :: t.data.toList.take k)).map bv) : xs ++ [.int .u8 (t[k].toNat : Int)] = (34 :: (l ++ 34 :: t.data.toList.take (k + 1))).map bv := by
  subst h
  rw [take_snoc t k hlt]
  simp [bv]
theorem want_bad {l tl : List UInt8} (h : false = !anyBad l) : (-1 : Int) = qend (esc l ++ 34 :: tl) 1 := by
  rw [qend_esc, if_pos (by simpa using h)]
theorem want_ok {l tl : List UInt8} {n : Nat} (h : true = !anyBad l) (hn : n = (esc l).length + 1) : (n : Int) + 1 = qend (esc l ++ 34 :: tl) 1 := by
  rw [qend_esc, if_neg (by simpa using h)]
  omega

/-- 'string(q)': the row's bytes. -/
theorem conv_run {w : World} {B g n cap : Nat} {ys : List Value} {L : List UInt8} (h : w.ownsRow B 5 1 (.slice (some ⟨g, 0, none⟩) n cap) n ys) (hy : ys = L.map bv) :
    (convert 25 9 (.slice (some ⟨g, 0, none⟩) n cap)).run Try.prog w = .ok (.string ⟨L.toArray⟩) w := by
  have hl : L.length = n := by
    have := h.1
    rw [hy] at this
    simpa using this
  subst hl
  refine run_convert_bytes_back w 25 9 5 ⟨g, 0, none⟩ cap L Try.underlying25 Try.underlying5 Try.underlying9 (fun j hj => ?_)
  have e : (⟨g, 0, none⟩ : Addr).add j = ⟨g, j, none⟩ := by
    by_cases h0 : j = 0 <;> simp [Addr.add, h0]
  rw [e, h.cellAt j (by omega), hy]
  simp [bv, hj]

/-- One round's row and world behind an append of one byte within the room. -/
theorem below_app {B g : Nat} {w0 w w' : World} {v : Value} {t : TypeId} (hb : Below B w0 w) (hB : B ≤ w.heap.size) (hg : (w.alloc (.cells #[v] t)).grownBy w' (some g)) (hgB : B ≤ g) : Below B w0 w' :=
  (hb.alloc hB _).grown hg (by simp; omega) (fun k hk => by cases hk; exact hgB)

set_option maxHeartbeats 1600000 in
theorem esc_walk (c t : ByteArray) (w : World) (hc : c.size ≤ 65536) (ht : t.size ≤ 65536) :
    Calls Try.prog 4 #[.string c, .string t] w fun e w' => e = .returned (.bool true) ∧ Below w.heap.size w w' := by
  obtain ⟨i0, hi, hz0, hz1, hz2⟩ := info_parts Try.info5
  go_enter Try.func4, Try.ntmps4
  go_wp2_with fail
  refine (bytes2_any c t _).mono ?_
  rintro e w' ⟨b, rfl, hw⟩
  subst hw
  cases b
  · go_wp2_with fail
    go_ret
    exact ⟨rfl, Below.refl _ _⟩
  go_wp2_with (at_make; refine wpList_make_own _ rfl _ _ 25 rfl w'.heap.size 5 i0 (.int .u8 0) 1 Try.underlying25 hi hz0 hz1 .i64 .i64 _ (2 * c.size + 2 + t.size) rfl rfl (by omega) (by rw [hz2]; omega) (by unfold maxLen; omega) (Nat.le_refl _) ?_)
  intro w1 hown hgrow
  have hb1 : Below w'.heap.size w' w1 := (Below.refl _ _).grown hgrow (Nat.le_refl _) (fun k hk => by cases hk)
  have hs1 := hb1.size
  clear hgrow
  go_wp2_with (at_builtin; refine wpList_append_fits _ rfl (.tmp 29) (.tmp 30) 25 rfl w'.heap.size 5 i0 1 Try.underlying25 hi hz1 w'.heap.size 0 (2 * c.size + 2 + t.size) [] rfl (hown.alloc _) ⟨w1.heap.size, 0, none⟩ 1 1 [.int .u8 34] rfl rfl (cell_one_new _ _ _) (one_u8 _) (by omega) ?_)
  intro w2 hown2 hgrow2
  have hb2 := below_app hb1 hb1.size hgrow2 (Nat.le_refl _)
  clear hgrow2 hown hb1 hs1
  go_wp2_with fail
  go_loopw [5, 6, 7, 8] (fun q p i _ wr => ∃ (k n : Nat) (xs : List Value) (pr : Bool), k ≤ c.size ∧ n ≤ 2 * k + 1 ∧ i = .int .i64 k ∧ q = .slice (some ⟨w'.heap.size, 0, none⟩) n (2 * c.size + 2 + t.size) ∧ p = .bool pr ∧
      Hid (pr = !anyBad (c.data.toList.take k)) ∧ Hid (xs = (34 :: esc (c.data.toList.take k)).map bv) ∧ wr.ownsRow w'.heap.size 5 1 (.slice (some ⟨w'.heap.size, 0, none⟩) n (2 * c.size + 2 + t.size)) n xs ∧ Below w'.heap.size w' wr) (fun _ _ i _ _ => c.size - (intOf i).toNat)
  case atStart => exact ⟨0, 1, _, true, Nat.zero_le _, by omega, rfl, rfl, rfl, rfl, rfl, hown2, hb2⟩
  case round =>
    obtain ⟨k, n, xs, pr, hk, hn, rfl, rfl, rfl, hpr, hxs, hown, hb⟩ := hrel
    have hsz := hb.size
    by_cases hlt : k < c.size
    · have hts := take_snoc c k hlt
      rcases (show (c[k].toNat : Int) = 34 ∨ (c[k].toNat : Int) = 92 ∨ ((c[k].toNat : Int) ≠ 34 ∧ (c[k].toNat : Int) ≠ 92 ∧ (c[k].toNat : Int) < 32) ∨ ((c[k].toNat : Int) ≠ 34 ∧ (c[k].toNat : Int) ≠ 92 ∧ 32 ≤ (c[k].toNat : Int) ∧ 126 < (c[k].toNat : Int)) ∨ ((c[k].toNat : Int) ≠ 34 ∧ (c[k].toNat : Int) ≠ 92 ∧ 32 ≤ (c[k].toNat : Int) ∧ (c[k].toNat : Int) ≤ 126) by omega) with h | h | ⟨h34, h92, h⟩ | ⟨h34, h92, h1, h⟩ | ⟨h34, h92, h1, h2⟩
      · have hq : ((c[k].toNat : Int) == 34) = true := by simpa using h
        have p1 : 32 ≤ (c[k].toNat : Int) := by omega
        have p2 : (c[k].toNat : Int) ≤ 126 := by omega
        have R1 : Hid (pr = !anyBad (c.data.toList.take (k + 1))) := by rw [hts]; exact pr_ok hpr.out (bad_quote _ (by omega))
        have R2 : Hid (xs ++ [.int .u8 92, .int .u8 (c[k].toNat : Int)] = (34 :: esc (c.data.toList.take (k + 1))).map bv) := by rw [hts]; exact xs_esc hxs.out (by omega)
        clear hts h hpr hxs
        go_wp2_with (at_builtin; refine wpList_append_fits _ rfl (.tmp 47) (.tmp 48) 25 rfl w'.heap.size 5 i0 1 Try.underlying25 hi hz1 w'.heap.size n (2 * c.size + 2 + t.size) xs rfl (hown.alloc _) ⟨wr.heap.size, 0, none⟩ 1 1 [.int .u8 92] rfl rfl (cell_one_new _ _ _) (one_u8 _) (by omega) ?_)
        intro w3 hown3 hgrow3
        have hb3 := below_app hb hsz hgrow3 (Nat.le_refl _)
        have hsz3 := hb3.size
        clear hgrow3 hown hb hsz
        go_wp2_with (at_builtin; refine wpList_append_fits _ rfl (.tmp 56) (.tmp 58) 25 rfl w'.heap.size 5 i0 1 Try.underlying25 hi hz1 w'.heap.size (n + 1) (2 * c.size + 2 + t.size) (xs ++ [.int .u8 92]) rfl (hown3.alloc _) ⟨w3.heap.size, 0, none⟩ 1 1 [.int .u8 (c[k].toNat : Int)] rfl rfl (cell_one_new _ _ _) (one_u8 _) (by omega) ?_)
        intro w4 hown4 hgrow4
        have hb4 := below_app hb3 hsz3 hgrow4 (Nat.le_refl _)
        clear hgrow4 hown3 hb3 hsz3
        go_wp2_with fail
        go_roundw
        case rel => exact ⟨k + 1, n + 1 + 1, _, pr, by omega, by omega, by go_num, rfl, rfl, R1, R2, hown4, hb4⟩
        case measure => simp [intOf]; omega
      · have hq : ((c[k].toNat : Int) == 34) = false := by simp; omega
        have hq2 : ((c[k].toNat : Int) == 92) = true := by simpa using h
        have p1 : 32 ≤ (c[k].toNat : Int) := by omega
        have p2 : (c[k].toNat : Int) ≤ 126 := by omega
        have R1 : Hid (pr = !anyBad (c.data.toList.take (k + 1))) := by rw [hts]; exact pr_ok hpr.out (bad_slash _ (by omega))
        have R2 : Hid (xs ++ [.int .u8 92, .int .u8 (c[k].toNat : Int)] = (34 :: esc (c.data.toList.take (k + 1))).map bv) := by rw [hts]; exact xs_esc hxs.out (by omega)
        clear hts h hpr hxs
        go_wp2_with (at_builtin; refine wpList_append_fits _ rfl (.tmp 47) (.tmp 48) 25 rfl w'.heap.size 5 i0 1 Try.underlying25 hi hz1 w'.heap.size n (2 * c.size + 2 + t.size) xs rfl (hown.alloc _) ⟨wr.heap.size, 0, none⟩ 1 1 [.int .u8 92] rfl rfl (cell_one_new _ _ _) (one_u8 _) (by omega) ?_)
        intro w3 hown3 hgrow3
        have hb3 := below_app hb hsz hgrow3 (Nat.le_refl _)
        have hsz3 := hb3.size
        clear hgrow3 hown hb hsz
        go_wp2_with (at_builtin; refine wpList_append_fits _ rfl (.tmp 56) (.tmp 58) 25 rfl w'.heap.size 5 i0 1 Try.underlying25 hi hz1 w'.heap.size (n + 1) (2 * c.size + 2 + t.size) (xs ++ [.int .u8 92]) rfl (hown3.alloc _) ⟨w3.heap.size, 0, none⟩ 1 1 [.int .u8 (c[k].toNat : Int)] rfl rfl (cell_one_new _ _ _) (one_u8 _) (by omega) ?_)
        intro w4 hown4 hgrow4
        have hb4 := below_app hb3 hsz3 hgrow4 (Nat.le_refl _)
        clear hgrow4 hown3 hb3 hsz3
        go_wp2_with fail
        go_roundw
        case rel => exact ⟨k + 1, n + 1 + 1, _, pr, by omega, by omega, by go_num, rfl, rfl, R1, R2, hown4, hb4⟩
        case measure => simp [intOf]; omega
      · have hq : ((c[k].toNat : Int) == 34) = false := by simpa using h34
        have hq2 : ((c[k].toNat : Int) == 92) = false := by simpa using h92
        have R1 : Hid (false = !anyBad (c.data.toList.take (k + 1))) := by rw [hts]; exact pr_bad ((bad_int _).2 (by omega))
        have R2 : Hid (xs ++ [.int .u8 (c[k].toNat : Int)] = (34 :: esc (c.data.toList.take (k + 1))).map bv) := by rw [hts]; exact xs_plain hxs.out (by omega)
        clear hts h34 h92 hpr hxs
        go_wp2_with (at_builtin; refine wpList_append_fits _ rfl (.tmp 56) (.tmp 58) 25 rfl w'.heap.size 5 i0 1 Try.underlying25 hi hz1 w'.heap.size n (2 * c.size + 2 + t.size) xs rfl (hown.alloc _) ⟨wr.heap.size, 0, none⟩ 1 1 [.int .u8 (c[k].toNat : Int)] rfl rfl (cell_one_new _ _ _) (one_u8 _) (by omega) ?_)
        intro w4 hown4 hgrow4
        have hb4 := below_app hb hsz hgrow4 (Nat.le_refl _)
        clear hgrow4 hown hb hsz
        go_wp2_with fail
        go_roundw
        case rel => exact ⟨k + 1, n + 1, _, false, by omega, by omega, by go_num, rfl, rfl, R1, R2, hown4, hb4⟩
        case measure => simp [intOf]; omega
      · have hq : ((c[k].toNat : Int) == 34) = false := by simpa using h34
        have hq2 : ((c[k].toNat : Int) == 92) = false := by simpa using h92
        have R1 : Hid (false = !anyBad (c.data.toList.take (k + 1))) := by rw [hts]; exact pr_bad ((bad_int _).2 (by omega))
        have R2 : Hid (xs ++ [.int .u8 (c[k].toNat : Int)] = (34 :: esc (c.data.toList.take (k + 1))).map bv) := by rw [hts]; exact xs_plain hxs.out (by omega)
        clear hts h34 h92 hpr hxs
        go_wp2_with (at_builtin; refine wpList_append_fits _ rfl (.tmp 56) (.tmp 58) 25 rfl w'.heap.size 5 i0 1 Try.underlying25 hi hz1 w'.heap.size n (2 * c.size + 2 + t.size) xs rfl (hown.alloc _) ⟨wr.heap.size, 0, none⟩ 1 1 [.int .u8 (c[k].toNat : Int)] rfl rfl (cell_one_new _ _ _) (one_u8 _) (by omega) ?_)
        intro w4 hown4 hgrow4
        have hb4 := below_app hb hsz hgrow4 (Nat.le_refl _)
        clear hgrow4 hown hb hsz
        go_wp2_with fail
        go_roundw
        case rel => exact ⟨k + 1, n + 1, _, false, by omega, by omega, by go_num, rfl, rfl, R1, R2, hown4, hb4⟩
        case measure => simp [intOf]; omega
      · have hq : ((c[k].toNat : Int) == 34) = false := by simpa using h34
        have hq2 : ((c[k].toNat : Int) == 92) = false := by simpa using h92
        have R1 : Hid (pr = !anyBad (c.data.toList.take (k + 1))) := by rw [hts]; exact pr_ok hpr.out (by rw [← Bool.not_eq_true, bad_int]; omega)
        have R2 : Hid (xs ++ [.int .u8 (c[k].toNat : Int)] = (34 :: esc (c.data.toList.take (k + 1))).map bv) := by rw [hts]; exact xs_plain hxs.out (by omega)
        clear hts h34 h92 hpr hxs
        go_wp2_with (at_builtin; refine wpList_append_fits _ rfl (.tmp 56) (.tmp 58) 25 rfl w'.heap.size 5 i0 1 Try.underlying25 hi hz1 w'.heap.size n (2 * c.size + 2 + t.size) xs rfl (hown.alloc _) ⟨wr.heap.size, 0, none⟩ 1 1 [.int .u8 (c[k].toNat : Int)] rfl rfl (cell_one_new _ _ _) (one_u8 _) (by omega) ?_)
        intro w4 hown4 hgrow4
        have hb4 := below_app hb hsz hgrow4 (Nat.le_refl _)
        clear hgrow4 hown hb hsz
        go_wp2_with fail
        go_roundw
        case rel => exact ⟨k + 1, n + 1, _, pr, by omega, by omega, by go_num, rfl, rfl, R1, R2, hown4, hb4⟩
        case measure => simp [intOf]; omega
    · obtain rfl : k = c.size := by omega
      have htk : c.data.toList.take c.size = c.data.toList := List.take_of_length_le (by simp)
      rw [htk] at hpr hxs
      clear htk
      go_wp2_with (at_builtin; refine wpList_append_fits _ rfl (.tmp 60) (.tmp 61) 25 rfl w'.heap.size 5 i0 1 Try.underlying25 hi hz1 w'.heap.size n (2 * c.size + 2 + t.size) xs rfl (hown.alloc _) ⟨wr.heap.size, 0, none⟩ 1 1 [.int .u8 34] rfl rfl (cell_one_new _ _ _) (one_u8 _) (by omega) ?_)
      intro w5 hown5 hgrow5
      have hb5 := below_app hb hsz hgrow5 (Nat.le_refl _)
      have hN : Hid (n = (esc c.data.toList).length + 1) := by
        have := hown.1
        rw [hxs.out] at this
        simp at this
        exact this.symm
      have hX : Hid (xs ++ [.int .u8 34] = (34 :: (esc c.data.toList ++ 34 :: t.data.toList.take 0)).map bv) := by
        rw [hxs.out, List.take_zero, ← List.cons_append, List.map_append]
        rfl
      clear hgrow5 hown hb hsz hxs
      obtain ⟨ys, hys⟩ : ∃ ys, ys = xs ++ [.int .u8 34] := ⟨_, rfl⟩
      rw [← hys] at hX hown5
      clear hys
      cases pr
      · have hA : Hid ((-1 : Int) = qend (esc c.data.toList ++ 34 :: t.data.toList) 1) := want_bad hpr.out
        clear hpr hN
        go_wp2_with fail
        go_loopw [5, 10] (fun q i wr => ∃ (k : Nat) (ys : List Value), k ≤ t.size ∧ i = .int .i64 k ∧ q = .slice (some ⟨w'.heap.size, 0, none⟩) (n + 1 + k) (2 * c.size + 2 + t.size) ∧
            Hid (ys = (34 :: (esc c.data.toList ++ 34 :: t.data.toList.take k)).map bv) ∧ wr.ownsRow w'.heap.size 5 1 (.slice (some ⟨w'.heap.size, 0, none⟩) (n + 1 + k) (2 * c.size + 2 + t.size)) (n + 1 + k) ys ∧ Below w'.heap.size w' wr) (fun _ i _ => t.size - (intOf i).toNat)
        case atStart => exact ⟨0, ys, Nat.zero_le _, rfl, rfl, hX, hown5, hb5⟩
        case round =>
          obtain ⟨k, zs, hk, rfl, rfl, hzs, hownr, hbr⟩ := hrel
          have hszr := hbr.size
          clear hX hown5 hb5
          by_cases hlt : k < t.size
          · have R2 : Hid (zs ++ [.int .u8 (t[k].toNat : Int)] = (34 :: (esc c.data.toList ++ 34 :: t.data.toList.take (k + 1))).map bv) := xs_tail t k hlt hzs.out
            clear hzs
            go_wp2_with (at_builtin; refine wpList_append_fits _ rfl (.tmp 72) (.tmp 76) 25 rfl w'.heap.size 5 i0 1 Try.underlying25 hi hz1 w'.heap.size (n + 1 + k) (2 * c.size + 2 + t.size) zs rfl (hownr.alloc _) ⟨wr.heap.size, 0, none⟩ 1 1 [.int .u8 (t[k].toNat : Int)] rfl rfl (cell_one_new _ _ _) (one_u8 _) (by omega) ?_)
            intro w6 hown6 hgrow6
            have hb6 := below_app hbr hszr hgrow6 (Nat.le_refl _)
            clear hgrow6 hownr hbr hszr
            go_wp2_with fail
            go_roundw
            case rel => exact ⟨k + 1, _, by omega, by go_num, rfl, R2, hown6, hb6⟩
            case measure => simp [intOf]; omega
          · obtain rfl : k = t.size := by omega
            have htk : t.data.toList.take t.size = t.data.toList := List.take_of_length_le (by simp)
            rw [htk] at hzs
            clear htk
            have hrun := conv_run hownr hzs.out
            obtain ⟨S, hS⟩ : ∃ S : ByteArray, S = ⟨(34 :: (esc c.data.toList ++ 34 :: t.data.toList)).toArray⟩ := ⟨_, rfl⟩
            have hA2 : Hid ((-1) = qend (S.data.toList.drop 1) 1) := by rw [hS]; exact hA.out
            have hSz : S.size ≤ 1000000 := by
              have h1 := hownr.1
              rw [hzs.out] at h1
              rw [hS]
              show (34 :: (esc c.data.toList ++ 34 :: t.data.toList)).length ≤ 1000000
              simp only [List.length_map] at h1
              omega
            rw [← hS] at hrun
            clear hS hA hzs hownr
            go_wp2_with fail
            refine (zz_any S _ (-1) hA2 hSz).mono ?_
            rintro e w7 ⟨rfl, hw7⟩
            subst hw7
            go_wp2_with fail
            go_ret
            exact ⟨rfl, hbr⟩
      · have hA : Hid ((n : Int) + 1 = qend (esc c.data.toList ++ 34 :: t.data.toList) 1) := want_ok hpr.out hN.out
        clear hpr hN
        go_wp2_with fail
        go_loopw [5, 10] (fun q i wr => ∃ (k : Nat) (ys : List Value), k ≤ t.size ∧ i = .int .i64 k ∧ q = .slice (some ⟨w'.heap.size, 0, none⟩) (n + 1 + k) (2 * c.size + 2 + t.size) ∧
            Hid (ys = (34 :: (esc c.data.toList ++ 34 :: t.data.toList.take k)).map bv) ∧ wr.ownsRow w'.heap.size 5 1 (.slice (some ⟨w'.heap.size, 0, none⟩) (n + 1 + k) (2 * c.size + 2 + t.size)) (n + 1 + k) ys ∧ Below w'.heap.size w' wr) (fun _ i _ => t.size - (intOf i).toNat)
        case atStart => exact ⟨0, ys, Nat.zero_le _, rfl, rfl, hX, hown5, hb5⟩
        case round =>
          obtain ⟨k, zs, hk, rfl, rfl, hzs, hownr, hbr⟩ := hrel
          have hszr := hbr.size
          clear hX hown5 hb5
          by_cases hlt : k < t.size
          · have R2 : Hid (zs ++ [.int .u8 (t[k].toNat : Int)] = (34 :: (esc c.data.toList ++ 34 :: t.data.toList.take (k + 1))).map bv) := xs_tail t k hlt hzs.out
            clear hzs
            go_wp2_with (at_builtin; refine wpList_append_fits _ rfl (.tmp 72) (.tmp 76) 25 rfl w'.heap.size 5 i0 1 Try.underlying25 hi hz1 w'.heap.size (n + 1 + k) (2 * c.size + 2 + t.size) zs rfl (hownr.alloc _) ⟨wr.heap.size, 0, none⟩ 1 1 [.int .u8 (t[k].toNat : Int)] rfl rfl (cell_one_new _ _ _) (one_u8 _) (by omega) ?_)
            intro w6 hown6 hgrow6
            have hb6 := below_app hbr hszr hgrow6 (Nat.le_refl _)
            clear hgrow6 hownr hbr hszr
            go_wp2_with fail
            go_roundw
            case rel => exact ⟨k + 1, _, by omega, by go_num, rfl, R2, hown6, hb6⟩
            case measure => simp [intOf]; omega
          · obtain rfl : k = t.size := by omega
            have htk : t.data.toList.take t.size = t.data.toList := List.take_of_length_le (by simp)
            rw [htk] at hzs
            clear htk
            have hrun := conv_run hownr hzs.out
            obtain ⟨S, hS⟩ : ∃ S : ByteArray, S = ⟨(34 :: (esc c.data.toList ++ 34 :: t.data.toList)).toArray⟩ := ⟨_, rfl⟩
            have hA2 : Hid (((n : Int) + 1) = qend (S.data.toList.drop 1) 1) := by rw [hS]; exact hA.out
            have hSz : S.size ≤ 1000000 := by
              have h1 := hownr.1
              rw [hzs.out] at h1
              rw [hS]
              show (34 :: (esc c.data.toList ++ 34 :: t.data.toList)).length ≤ 1000000
              simp only [List.length_map] at h1
              omega
            rw [← hS] at hrun
            clear hS hA hzs hownr
            go_wp2_with fail
            refine (zz_any S _ ((n : Int) + 1) hA2 hSz).mono ?_
            rintro e w7 ⟨rfl, hw7⟩
            subst hw7
            go_wp2_with fail
            go_ret
            exact ⟨rfl, hbr⟩

set_option maxHeartbeats 400000 in
theorem esc_big (c t : ByteArray) (w : World) (h : 65536 < c.size ∨ (c.size ≤ 65536 ∧ 65536 < t.size)) :
    Calls Try.prog 4 #[.string c, .string t] w fun e w' => e = .returned (.bool true) ∧ Below w.heap.size w w' := by
  rcases h with h | ⟨h1, h⟩
  all_goals
    go_enter Try.func4, Try.ntmps4
    go_wp2_with fail
    refine (bytes2_any c t _).mono ?_
    rintro e w' ⟨b, rfl, hw⟩
    subst hw
    cases b
    all_goals (go_wp2_with fail; go_ret; exact ⟨rfl, Below.refl _ _⟩)

/-- THE WALK: whatever the two strings: true; nothing that was there has turned. -/
theorem escaped_walk (c t : ByteArray) (w : World) :
    Calls Try.prog 4 #[.string c, .string t] w fun e w' => e = .returned (.bool true) ∧ Below w.heap.size w w' := by
  by_cases h : c.size ≤ 65536 ∧ t.size ≤ 65536
  · exact esc_walk c t w h.1 h.2
  · exact esc_big c t w (by omega)

end Go.Proofs.Qxb6617165a
